import PyProof.Rows.All
import Wide.All
import OpenK.AllK
import Wide.FinOn
import PySem.Challenge.RW_mr0013_01
open PySem PySem.W PySem.Calls PyProof.Rows
set_option Elab.async false
set_option maxRecDepth 100000
set_option linter.unusedVariables false
set_option linter.unusedSectionVars false
namespace Mine

/-- plain data -/
inductive D where
  | none
  | bool (b : Bool)
  | int (i : Int)
  | str (x : Str)
  | bytes (b : Array UInt8)
  | ty (T : String)
  | list (ds : List D)
  | tuple (ds : List D)
  | mlist (a : Addr) (ds : List D)

mutual
/-- the value v reads as the datum d in the heap h; mu: the addresses of lists that may change -/
inductive Rd (mu : List Addr) (h : Heap) : Value → D → Prop
  | none : Rd mu h .none .none
  | bool (b : Bool) : Rd mu h (.bool b) (.bool b)
  | int (i : Int) (t : Tok) : Rd mu h (.int i t) (.int i)
  | str (x : Str) (t : Tok) : Rd mu h (.str x t) (.str x)
  | bytes (b : Array UInt8) (t : Tok) : Rd mu h (.bytes b t) (.bytes b)
  | ty (T : String) : Rd mu h (.type T) (.ty T)
  | list {a : Addr} {vs : List Value} {ds : List D} : h.IsList a vs.toArray → a ∉ mu → RdAll mu h vs ds → Rd mu h (.ref a) (.list ds)
  | tuple {a : Addr} {vs : List Value} {ds : List D} : IsTup h a vs.toArray → a ∉ mu → RdAll mu h vs ds → Rd mu h (.ref a) (.tuple ds)
  | mlist {a : Addr} {vs : List Value} {ds : List D} : h.PlainList a vs.toArray → a ∈ mu → RdAll mu h vs ds → Rd mu h (.ref a) (.mlist a ds)
inductive RdAll (mu : List Addr) (h : Heap) : List Value → List D → Prop
  | nil : RdAll mu h [] []
  | cons {v : Value} {vs : List Value} {d : D} {ds : List D} : Rd mu h v d → RdAll mu h vs ds → RdAll mu h (v :: vs) (d :: ds)
end

/-- every sequence object of h stands in h' -/
def KSeq (h h' : Heap) : Prop := ∀ a o its n, h.get? a = some o → o.data = .seq its n → h'.get? a = some o

mutual
theorem Rd.kseq {mu : List Addr} {h h' : Heap} (k : KSeq h h') : ∀ {v : Value} {d : D}, Rd mu h v d → Rd mu h' v d
  | _, _, .none => .none
  | _, _, .bool b => .bool b
  | _, _, .int i t => .int i t
  | _, _, .str x t => .str x t
  | _, _, .bytes b t => .bytes b t
  | _, _, .ty T => .ty T
  | _, _, .list ⟨o, ho, hc, n, hd⟩ hm r => .list ⟨o, k _ _ _ _ ho hd, hc, n, hd⟩ hm (RdAll.kseq k r)
  | _, _, .tuple ⟨o, ho, hc, n, hd⟩ hm r => .tuple ⟨o, k _ _ _ _ ho hd, hc, n, hd⟩ hm (RdAll.kseq k r)
  | _, _, .mlist ⟨n, ho⟩ hm r => .mlist ⟨n, k _ _ _ _ ho rfl⟩ hm (RdAll.kseq k r)
theorem RdAll.kseq {mu : List Addr} {h h' : Heap} (k : KSeq h h') : ∀ {vs : List Value} {ds : List D}, RdAll mu h vs ds → RdAll mu h' vs ds
  | _, _, .nil => .nil
  | _, _, .cons a r => .cons (Rd.kseq k a) (RdAll.kseq k r)
end

theorem KSeq.of_all {h h' : Heap} (k : ∀ b o, h.get? b = some o → h'.get? b = some o) : KSeq h h' := fun _ _ _ _ e _ => k _ _ e
theorem KSeq.refl (h : Heap) : KSeq h h := fun _ _ _ _ e _ => e
theorem KSeq.trans {h h' h'' : Heap} (a : KSeq h h') (b : KSeq h' h'') : KSeq h h'' := fun _ _ _ _ e d => b _ _ _ _ (a _ _ _ _ e d) d
theorem KSeq.sameBut {h h' : Heap} {c : Addr} (hs : Heap.SameBut c h h') (hn : ∀ o its n, h.get? c = some o → o.data ≠ .seq its n) : KSeq h h' := fun a o its n e d => by
  by_cases hac : a = c
  · subst hac; exact absurd d (hn o its n e)
  · exact (hs.2 a hac).trans e

theorem RdAll.length {mu : List Addr} {h : Heap} : ∀ {vs : List Value} {ds : List D}, RdAll mu h vs ds → vs.length = ds.length
  | _, _, .nil => rfl
  | _, _, .cons _ r => congrArg (· + 1) (RdAll.length r)
theorem RdAll.append {mu : List Addr} {h : Heap} : ∀ {vs ws : List Value} {ds es : List D}, RdAll mu h vs ds → RdAll mu h ws es → RdAll mu h (vs ++ ws) (ds ++ es)
  | _, _, _, _, .nil, k => k
  | _, _, _, _, .cons a r, k => .cons a (RdAll.append r k)
theorem RdAll.get {mu : List Addr} {h : Heap} : ∀ {vs : List Value} {ds : List D} {i : Nat} {d : D}, RdAll mu h vs ds → ds[i]? = some d → ∃ v, vs[i]? = some v ∧ Rd mu h v d
  | _, _, i, _, .nil, e => by simp at e
  | _, _, 0, _, .cons a _, e => by simp at e; subst e; exact ⟨_, rfl, a⟩
  | _, _, i + 1, _, .cons _ r, e => by simpa using RdAll.get r (by simpa using e)
theorem RdAll.get' {mu : List Addr} {h : Heap} : ∀ {vs : List Value} {ds : List D} {i : Nat} {v : Value}, RdAll mu h vs ds → vs[i]? = some v → ∃ d, ds[i]? = some d ∧ Rd mu h v d
  | _, _, i, _, .nil, e => by simp at e
  | _, _, 0, _, .cons a _, e => by simp at e; subst e; exact ⟨_, rfl, a⟩
  | _, _, i + 1, _, .cons _ r, e => by simpa using RdAll.get' r (by simpa using e)
theorem RdAll.take {mu : List Addr} {h : Heap} : ∀ {vs : List Value} {ds : List D} (k : Nat), RdAll mu h vs ds → RdAll mu h (vs.take k) (ds.take k)
  | _, _, 0, _ => by simp; exact .nil
  | _, _, k + 1, .nil => by simp; exact .nil
  | _, _, k + 1, .cons a r => by simpa using .cons a (RdAll.take k r)
theorem RdAll.drop {mu : List Addr} {h : Heap} : ∀ {vs : List Value} {ds : List D} (k : Nat), RdAll mu h vs ds → RdAll mu h (vs.drop k) (ds.drop k)
  | _, _, 0, r => by simpa using r
  | _, _, k + 1, .nil => by simp; exact .nil
  | _, _, k + 1, .cons _ r => by simpa using RdAll.drop k r

/-- the static part of a run: the program, the world, the heap at the law's start -/
structure Cx where
  prog : Program
  w : World
  base : Heap
  mg : Str → Option Value
  mb : Str → Option Value
  g : base.Ns mainGlobals mg
  b : base.Ns builtinsNs mb
  lim : base.NoLimit

abbrev Cx.M (C : Cx) : Model := model C.prog C.w
def Cx.At (C : Cx) (h : Heap) : Prop := ∀ b o, C.base.get? b = some o → h.get? b = some o

/-- an activation: a frame, and the lists that it may change -/
structure Act where
  C : Cx
  env : Env
  oc : List Addr
  mu : List Addr

/-- a function's own activation -/
abbrev Act.fn (C : Cx) (env : Env) : Act := ⟨C, env, env.cells.map (·.2), []⟩
def Act.own (X : Act) : List Addr := X.env.locals :: (X.oc ++ X.mu)

def Bnd (h : Heap) (env : Env) (x : Str) (v : Value) : Prop :=
  (env.kindOf x = some .local ∧ ∃ m, h.Ns env.locals m ∧ m x = some v) ∨
  ((env.kindOf x = some .cell ∨ (env.kindOf x = some .free ∧ (x == ("__classdict__" : Str)) = false)) ∧ ∃ c, env.cells.lookup x = some c ∧ h.IsCell c (some v))

abbrev Rho := List (Str × D)

structure EnvOk (X : Act) (h : Heap) (ρ : Rho) : Prop where
  at_ : X.C.At h
  fresh : ∀ a ∈ X.own, X.C.base.get? a = none
  ns : ∃ m, h.Ns X.env.locals m
  cells : ∀ p ∈ X.env.cells, ∃ v, h.IsCell p.2 v
  oc : ∀ a ∈ X.oc, ∃ p ∈ X.env.cells, p.2 = a
  nodup : (X.env.cells.map (·.2)).Nodup
  seqs : ∀ a ∈ X.mu, ∃ its, h.IsList a its
  kind : X.env.scope.kind = .function
  glob : X.env.globals = mainGlobals
  blt : X.env.builtins = builtinsNs
  vals : ∀ x d, ρ.lookup x = some d → ∃ v, Bnd h X.env x v ∧ Rd X.mu h v d

theorem Bnd.keeps {h h' : Heap} {env : Env} {x : Str} {v : Value} (k : ∀ b o, h.get? b = some o → h'.get? b = some o) (hb : Bnd h env x v) : Bnd h' env x v := by
  rcases hb with ⟨a, m, hn, hm⟩ | ⟨a, c, hc, hv⟩
  · exact .inl ⟨a, m, hn.keeps k, hm⟩
  · exact .inr ⟨a, c, hc, hv.keeps k⟩

theorem EnvOk.keeps {X : Act} {h h' : Heap} {ρ : Rho} (k : ∀ b o, h.get? b = some o → h'.get? b = some o) (e : EnvOk X h ρ) : EnvOk X h' ρ where
  at_ := fun b o q => k b o (e.at_ b o q)
  fresh := e.fresh
  ns := let ⟨m, hm⟩ := e.ns; ⟨m, hm.keeps k⟩
  cells := fun p hp => let ⟨v, hv⟩ := e.cells p hp; ⟨v, hv.keeps k⟩
  oc := e.oc
  nodup := e.nodup
  seqs := fun a ha => let ⟨its, o, ho, r⟩ := e.seqs a ha; ⟨its, o, k _ _ ho, r⟩
  kind := e.kind
  glob := e.glob
  blt := e.blt
  vals := fun x d hx => let ⟨v, hb, hr⟩ := e.vals x d hx; ⟨v, hb.keeps k, hr.kseq (.of_all k)⟩

/-- room on the stack, nothing handled -/
structure Ok (n : Nat) (A : Around) : Prop where
  handled : A.handled = none
  depth : A.depth + n < recursionLimit
  units : A.units + 10 * n + 100 < cLine


theorem Ok.mono {n m : Nat} {A : Around} (h : Ok n A) (hm : m ≤ n) : Ok m A := ⟨h.handled, by have := h.depth; omega, by have := h.units; omega⟩

def Kp (s s' : Shared) : Prop := PySem.Keeps s s'
theorem Kp.refl (s : Shared) : Kp s s := ⟨s.heap, s.toks, rfl, fun _ _ e => e⟩
theorem Kp.trans {a b c : Shared} : Kp a b → Kp b c → Kp a c := by
  rintro ⟨h, t, rfl, k⟩ ⟨h', t', rfl, k'⟩
  exact ⟨h', t', rfl, fun b o e => k' b o (k b o e)⟩
theorem Kp.all {s s' : Shared} : Kp s s' → ∀ b o, s.heap.get? b = some o → s'.heap.get? b = some o := by rintro ⟨h, t, rfl, k⟩; exact k
theorem Kp.kseq {s s' : Shared} (k : Kp s s') : KSeq s.heap s'.heap := .of_all k.all
theorem Kp.toks {s : Shared} {t : Nat} : Kp s { s with toks := t } := ⟨s.heap, t, rfl, fun _ _ e => e⟩
theorem Kp.push {s : Shared} {o : Obj} : Kp s { s with heap := s.heap.push o } := ⟨_, s.toks, rfl, fun _ _ e => Heap.get?_push_of_some _ e⟩
theorem Kp.of {s : Shared} {h' : Heap} {t : Nat} (k : ∀ b o, s.heap.get? b = some o → h'.get? b = some o) : Kp s { s with heap := h', toks := t } := ⟨h', t, rfl, k⟩
theorem Kp.ofH {s : Shared} {h' : Heap} (k : ∀ b o, s.heap.get? b = some o → h'.get? b = some o) : Kp s { s with heap := h' } := ⟨h', s.toks, rfl, k⟩

/-- the tree t, run where the heap holds the static part, gives a value that reads as d, and keeps all -/
def Gv (C : Cx) (mu : List Addr) (A : Around) (t : Sem Value) (d : D) (s : Shared) : Prop :=
  ∀ E Q, (∀ v s', Kp s s' → Rd mu s'.heap v d → Q v s') → wpAny C.M A t Q E s

/-- the expression e gives the datum d -/
def Ev (X : Act) (n : Nat) (ρ : Rho) (e : Expr) (d : D) : Prop :=
  ∀ A s, Ok n A → EnvOk X s.heap ρ → Gv X.C X.mu A (eval e X.env) d s

/-- the test e comes out as b -/
def Tr (X : Act) (n : Nat) (ρ : Rho) (e : Expr) (b : Bool) : Prop :=
  ∀ A s E (Q : Bool → Shared → Prop), Ok n A → EnvOk X s.heap ρ → (∀ s', Kp s s' → Q b s') → wpAny X.C.M A (isTrue e X.env (eval e X.env)) Q E s

/-- the expressions in a row -/
def Evs (X : Act) (n : Nat) (ρ : Rho) (es : List Expr) (ds : List D) : Prop :=
  ∀ A s E (Q : List Value → Shared → Prop) pos, Ok n A → EnvOk X s.heap ρ → (∀ vs s', Kp s s' → RdAll X.mu s'.heap vs ds → Q vs s') →
    wpAny X.C.M A (spliced (backTo pos (starEach es X.env))) Q E s

/-- an operation on values, as data -/
def Op1 (C : Cx) (mu : List Addr) (n : Nat) (f : Value → Sem Value) (d1 d : D) : Prop :=
  ∀ A s v, Ok n A → C.At s.heap → Rd mu s.heap v d1 → Gv C mu A (f v) d s
def Op2 (C : Cx) (mu : List Addr) (n : Nat) (f : Value → Value → Sem Value) (d1 d2 d : D) : Prop :=
  ∀ A s v u, Ok n A → C.At s.heap → Rd mu s.heap v d1 → Rd mu s.heap u d2 → Gv C mu A (f v u) d s
def OpN (C : Cx) (mu : List Addr) (n : Nat) (f : List Value → Sem Value) (ds : List D) (d : D) : Prop :=
  ∀ A s vs, Ok n A → C.At s.heap → RdAll mu s.heap vs ds → Gv C mu A (f vs) d s

section
variable {X : Act} {n : Nat} {ρ : Rho}

theorem Ev.name {x : Str} {pos : Pos} {d : D} (hx : ρ.lookup x = some d) (hd : (x == ("__debug__" : Str)) = false := by decide +kernel) : Ev X n ρ (.Name x pos) d := by
  intro A s hA hE E Q hQ
  obtain ⟨v, hb, hr⟩ := hE.vals x d hx
  refine wpAny_Name ?_ hd
  rcases hb with ⟨a, m, hn, hm⟩ | ⟨a | ⟨a, hcd⟩, c, hc, hv⟩
  · exact wpAny_loadName_local hE.kind a hn hm (hQ v s (.refl s) hr)
  · exact wpAny_loadName_cell hE.kind a hc hv (hQ v s (.refl s) hr)
  · exact wpAny_loadName_free hE.kind a hc hv (hQ v s (.refl s) hr) hcd

theorem Ev.int {i : Int} {k : Nat} {pos : Pos} : Ev X n ρ (.Constant (.int i) k pos) (.int i) := fun A s _ _ E Q hQ => wpAny_Constant_int (hQ _ _ .toks (.int ..))
theorem Ev.str {x : Str} {k : Nat} {pos : Pos} : Ev X n ρ (.Constant (.str x) k pos) (.str x) := fun A s _ _ E Q hQ => Constant_str (hQ _ _ .toks (.str ..))
theorem Ev.bool {b : Bool} {k : Nat} {pos : Pos} : Ev X n ρ (.Constant (.bool b) k pos) (.bool b) := fun A s _ _ E Q hQ => (show wpAny _ A (pure (Value.bool b)) _ _ s from wpAny_pure (hQ _ _ (.refl s) (.bool _)))
theorem Ev.none {k : Nat} {pos : Pos} : Ev X n ρ (.Constant .none k pos) .none := fun A s _ _ E Q hQ => (show wpAny _ A (pure Value.none) _ _ s from wpAny_pure (hQ _ _ (.refl s) .none))

theorem Ev.binop {l r : Expr} {op : Operator} {pos : Pos} {d1 d2 d : D} (h1 : Ev X n ρ l d1) (h2 : Ev X n ρ r d2) (ho : Op2 X.C X.mu n (binaryOp op) d1 d2 d) : Ev X n ρ (.BinOp l op r pos) d := by
  intro A s hA hE E Q hQ
  refine wpAny_BinOp (h1 A s hA hE E _ fun v s1 k1 r1 => h2 A s1 hA (hE.keeps k1.all) E _ fun u s2 k2 r2 => ?_)
  exact ho A s2 v u hA (hE.keeps (k1.trans k2).all).at_ (r1.kseq k2.kseq) r2 E Q fun v' s' k r => hQ v' s' ((k1.trans k2).trans k) r

theorem Ev.cmp {l r : Expr} {op : CmpOp} {pos : Pos} {d1 d2 d : D} (h1 : Ev X n ρ l d1) (h2 : Ev X n ρ r d2) (ho : Op2 X.C X.mu n (compareOp op) d1 d2 d)
    (hm : behindInMarks op r = false := by rfl) : Ev X n ρ (.Compare l [op] [r] pos) d := by
  intro A s hA hE E Q hQ
  refine wpAny_Compare1 (h1 A s hA hE E _ fun v s1 k1 r1 => h2 A s1 hA (hE.keeps k1.all) E _ fun u s2 k2 r2 => ?_) hm
  exact ho A s2 v u hA (hE.keeps (k1.trans k2).all).at_ (r1.kseq k2.kseq) r2 E Q fun v' s' k r => hQ v' s' ((k1.trans k2).trans k) r

theorem Tr.cmp {l r : Expr} {op : CmpOp} {pos : Pos} {d1 d2 : D} {b : Bool} (h1 : Ev X n ρ l d1) (h2 : Ev X n ρ r d2) (ho : Op2 X.C X.mu n (compareOp op) d1 d2 (.bool b))
    (hm : behindInMarks op r = false := by rfl) : Tr X n ρ (.Compare l [op] [r] pos) b := by
  intro A s E Q hA hE hQ
  refine wpAny_isTrue_Compare1 (h1 A s hA hE E _ fun v s1 k1 r1 => h2 A s1 hA (hE.keeps k1.all) E _ fun u s2 k2 r2 => ?_) hm
  refine ho A s2 v u hA (hE.keeps (k1.trans k2).all).at_ (r1.kseq k2.kseq) r2 E _ fun v' s' k r => ?_
  cases r
  exact wpAny_truthy_bool (hQ s' ((k1.trans k2).trans k))

theorem Ev.ifexp {t a b : Expr} {pos : Pos} {c : Bool} {d : D} (ht : Tr X n ρ t c) (ha : c = true → Ev X n ρ a d) (hb : c = false → Ev X n ρ b d) : Ev X n ρ (.IfExp t a b pos) d := by
  intro A s hA hE E Q hQ
  show wpAny _ A (isTrue t X.env (eval t X.env) >>= fun c => if c then eval a X.env else eval b X.env) Q E s
  refine wpAny_bind (ht A s E _ hA hE fun s' k => ?_)
  cases c with
  | true => exact ha rfl A s' hA (hE.keeps k.all) E Q fun v s'' k' r => hQ v s'' (k.trans k') r
  | false => exact hb rfl A s' hA (hE.keeps k.all) E Q fun v s'' k' r => hQ v s'' (k.trans k') r

theorem Evs.nil : Evs X n ρ [] [] := fun _ s _ _ _ _ _ hQ => wpAny_pure (hQ [] s (.refl s) .nil)
theorem Evs.cons {e : Expr} {es : List Expr} {d : D} {ds : List D} (h1 : Ev X n ρ e d) (h2 : Evs X n ρ es ds)
    (he : starEach (e :: es) X.env = (false, eval e X.env) :: starEach es X.env := by rfl) : Evs X n ρ (e :: es) (d :: ds) := by
  intro A s E Q pos hA hE hQ
  rw [he]
  refine spliced_cons (h1 A s hA hE E _ fun v s1 k1 r1 => h2 A s1 E _ pos hA (hE.keeps k1.all) fun vs s2 k2 r2 => ?_)
  exact hQ _ s2 (k1.trans k2) (.cons (r1.kseq k2.kseq) r2)

theorem Ev.list {es : List Expr} {pos : Pos} {ds : List D} (h : Evs X n ρ es ds) (hsz : ds.length ≤ 1000000) : Ev X n ρ (.List es pos) (.list ds) := by
  intro A s hA hE E Q hQ
  refine List_ (h A s E _ pos hA hE fun vs s1 k1 r1 => ?_)
  have hlen := r1.length
  refine wpAny_newObj_type (hQ _ _ (k1.trans .push) ?_) (by show vs.toArray.size ≤ sizeLine; rw [List.size_toArray, sizeLine_eq]; omega)
  refine .list ⟨_, Heap.get?_push_size _ rfl, rfl, 0, rfl⟩ (fun hm => ?_) (r1.kseq (.of_all fun _ _ e => Heap.get?_push_of_some _ e))
  obtain ⟨its, o, ho, _⟩ := (hE.keeps k1.all).seqs _ hm
  exact absurd (Heap.lt_size ho) (Nat.lt_irrefl _)
end
end Mine

namespace Mine

/-- all but what the activation owns is kept -/
def KpB (X : Act) (s s' : Shared) : Prop := ∃ h' tk, s' = { s with heap := h', toks := tk } ∧ ∀ b o, b ∉ X.own → s.heap.get? b = some o → h'.get? b = some o
theorem KpB.refl {X : Act} (s : Shared) : KpB X s s := ⟨s.heap, s.toks, rfl, fun _ _ _ e => e⟩
theorem KpB.trans {X : Act} {a b c : Shared} : KpB X a b → KpB X b c → KpB X a c := by
  rintro ⟨h, t, rfl, k⟩ ⟨h', t', rfl, k'⟩
  exact ⟨h', t', rfl, fun b o n e => k' b o n (k b o n e)⟩
theorem KpB.of_kp {X : Act} {s s' : Shared} : Kp s s' → KpB X s s' := by
  rintro ⟨h, t, rfl, k⟩
  exact ⟨h, t, rfl, fun b o _ e => k b o e⟩
theorem KpB.all {X : Act} {s s' : Shared} : KpB X s s' → ∀ b o, b ∉ X.own → s.heap.get? b = some o → s'.heap.get? b = some o := by rintro ⟨h, t, rfl, k⟩; exact k

inductive Out where
  | next (ρ : Rho)
  | ret (d : D)

def Out.Post (X : Act) : Out → Flow → Shared → Prop
  | .next ρ, f, s => f = .next ∧ EnvOk X s.heap ρ
  | .ret d, f, s => ∃ v, f = .ret v ∧ Rd X.mu s.heap v d

/-- one statement -/
def Ex1 (X : Act) (n : Nat) (ρ : Rho) (st : Stmt) (o : Out) : Prop :=
  ∀ A s E Q, Ok n A → EnvOk X s.heap ρ → (∀ f s', KpB X s s' → o.Post X f s' → Q f s') → wpAny X.C.M A (exec st X.env) Q E s
/-- statements in a row -/
def Ex (X : Act) (n : Nat) (ρ : Rho) (ss : List Stmt) (o : Out) : Prop :=
  ∀ A s E Q, Ok n A → EnvOk X s.heap ρ → (∀ f s', KpB X s s' → o.Post X f s' → Q f s') → wpAny X.C.M A (execs ss X.env) Q E s

/-- ρ' says no more than ρ -/
def Sub (ρ ρ' : Rho) : Prop := ∀ x d, ρ'.lookup x = some d → ρ.lookup x = some d
theorem Sub.nil {σ : Rho} : Sub σ [] := fun x d h => by simp at h
theorem Sub.cons {σ ρ : Rho} {x : Str} {d : D} (h : σ.lookup x = some d) (r : Sub σ ρ) : Sub σ ((x, d) :: ρ) := fun y e hy => by
  by_cases hyx : y = x
  · subst hyx; simp at hy; subst hy; exact h
  · have e1 : (y == x) = false := by simpa using hyx
    rw [List.lookup_cons, e1] at hy
    exact r y e hy
theorem Sub.refl (σ : Rho) : Sub σ σ := fun _ _ h => h
theorem EnvOk.sub {X : Act} {h : Heap} {ρ ρ' : Rho} (e : EnvOk X h ρ) (k : Sub ρ ρ') : EnvOk X h ρ' := { e with vals := fun x d hx => e.vals x d (k x d hx) }

section
variable {X : Act} {n : Nat} {ρ ρ' : Rho}
theorem Ex.nil : Ex X n ρ [] (.next ρ) := fun A s E Q hA hE hQ => wpAny_execs_nil (hQ _ s (.refl s) ⟨rfl, hE⟩)
theorem Ex.cons {st : Stmt} {ss : List Stmt} {o : Out} (h1 : Ex1 X n ρ st (.next ρ')) (h2 : Ex X n ρ' ss o) : Ex X n ρ (st :: ss) o := by
  intro A s E Q hA hE hQ
  refine wpAny_execs_cons (h1 A s E _ hA hE fun f s' k p => ?_)
  obtain ⟨rfl, hE'⟩ := p
  exact h2 A s' E Q hA hE' fun f s'' k' p => hQ f s'' (k.trans k') p
theorem Ex.stop {st : Stmt} {ss : List Stmt} {d : D} (h1 : Ex1 X n ρ st (.ret d)) : Ex X n ρ (st :: ss) (.ret d) := by
  intro A s E Q hA hE hQ
  refine wpAny_execs_cons (h1 A s E _ hA hE fun f s' k p => ?_)
  obtain ⟨v, rfl, hr⟩ := p
  exact hQ _ s' k ⟨v, rfl, hr⟩
theorem Ex.sub {ss : List Stmt} {σ : Rho} (h : Ex X n ρ ss (.next σ)) (k : Sub σ ρ') : Ex X n ρ ss (.next ρ') := fun A s E Q hA hE hQ =>
  h A s E Q hA hE fun f s' kk p => hQ f s' kk ⟨p.1, p.2.sub k⟩
theorem Ex.pre {ss : List Stmt} {o : Out} (k : Sub ρ ρ') (h : Ex X n ρ' ss o) : Ex X n ρ ss o := fun A s E Q hA hE hQ => h A s E Q hA (hE.sub k) hQ
theorem Ev.pre {e : Expr} {d : D} (k : Sub ρ ρ') (h : Ev X n ρ' e d) : Ev X n ρ e d := fun A s hA hE => h A s hA (hE.sub k)

theorem Ex1.ret {e : Expr} {pos : Pos} {d : D} (h : Ev X n ρ e d) : Ex1 X n ρ (.Return (some e) pos) (.ret d) := fun A s E Q hA hE hQ =>
  wpAny_Return_some (h A s hA hE E _ fun v s' k r => hQ _ s' (.of_kp k) ⟨v, rfl, r⟩)

theorem Ex1.ite {t : Expr} {a b : List Stmt} {pos : Pos} {c : Bool} {o : Out} (ht : Tr X n ρ t c) (ha : c = true → Ex X n ρ a o) (hb : c = false → Ex X n ρ b o) : Ex1 X n ρ (.If t a b pos) o := by
  intro A s E Q hA hE hQ
  refine wpAny_If (ht A s E _ hA hE fun s' k => ?_)
  cases c with
  | true => exact ha rfl A s' E Q hA (hE.keeps k.all) fun f s'' k' p => hQ f s'' ((KpB.of_kp k).trans k') p
  | false => exact hb rfl A s' E Q hA (hE.keeps k.all) fun f s'' k' p => hQ f s'' ((KpB.of_kp k).trans k') p
end

theorem lookup_mem_snd {x : Str} {c : Addr} : ∀ {l : List (Str × Addr)}, l.lookup x = some c → (x, c) ∈ l
  | [], h => by simp at h
  | (y, b) :: r, h => by
    by_cases hxy : x = y
    · subst hxy; simp at h; subst h; exact .head _
    · have : (x == y) = false := by simpa using hxy
      rw [List.lookup_cons, this] at h
      exact .tail _ (lookup_mem_snd h)
theorem lookup_inj {x y : Str} {c : Addr} : ∀ {l : List (Str × Addr)}, (l.map (·.2)).Nodup → l.lookup x = some c → l.lookup y = some c → x = y
  | [], _, h, _ => by simp at h
  | (z, b) :: r, hn, h1, h2 => by
    simp only [List.map_cons, List.nodup_cons] at hn
    by_cases hx : x = z <;> by_cases hy : y = z
    · rw [hx, hy]
    · subst hx
      have e : (y == x) = false := by simpa using hy
      rw [List.lookup_cons, e] at h2
      simp at h1; subst h1
      exact absurd (List.mem_map.mpr ⟨_, lookup_mem_snd h2, rfl⟩) hn.1
    · subst hy
      have e : (x == y) = false := by simpa using hx
      rw [List.lookup_cons, e] at h1
      simp at h2; subst h2
      exact absurd (List.mem_map.mpr ⟨_, lookup_mem_snd h1, rfl⟩) hn.1
    · have e1 : (x == z) = false := by simpa using hx
      have e2 : (y == z) = false := by simpa using hy
      rw [List.lookup_cons, e1] at h1
      rw [List.lookup_cons, e2] at h2
      exact lookup_inj hn.2 h1 h2

theorem not_seq_of_ns {h : Heap} {a : Addr} {m : Str → Option Value} (hn : h.Ns a m) : ∀ o its n, h.get? a = some o → o.data ≠ .seq its n := by
  obtain ⟨o', es, ep, ho, hd, _⟩ := hn
  intro o its n e hs
  rw [ho] at e; cases e
  rw [hd] at hs; cases hs
theorem not_seq_of_cell {h : Heap} {a : Addr} {v : Option Value} (hn : h.IsCell a v) : ∀ o its n, h.get? a = some o → o.data ≠ .seq its n := by
  obtain ⟨o', ho, hd⟩ := hn
  intro o its n e hs
  rw [ho] at e; cases e
  rw [hd] at hs; cases hs
theorem ns_ne_cell {h : Heap} {a c : Addr} {m : Str → Option Value} {v : Option Value} (hn : h.Ns a m) (hc : h.IsCell c v) : a ≠ c := by
  rintro rfl
  obtain ⟨o', es, ep, ho, hd, _⟩ := hn
  obtain ⟨o, ho', hd'⟩ := hc
  rw [ho] at ho'; cases ho'
  rw [hd] at hd'; cases hd'
theorem list_ne_cell {h : Heap} {a c : Addr} {its : Array Value} {v : Option Value} (hn : h.IsList a its) (hc : h.IsCell c v) : a ≠ c := by
  rintro rfl
  obtain ⟨o', ho, _, n, hd⟩ := hn
  exact not_seq_of_cell hc _ _ _ ho hd
theorem list_ne_ns {h : Heap} {a c : Addr} {its : Array Value} {m : Str → Option Value} (hn : h.IsList a its) (hc : h.Ns c m) : a ≠ c := by
  rintro rfl
  obtain ⟨o', ho, _, n, hd⟩ := hn
  exact not_seq_of_ns hc _ _ _ ho hd
theorem Bnd.det {h : Heap} {env : Env} {x : Str} {v u : Value} (a : Bnd h env x v) (b : Bnd h env x u) : v = u := by
  rcases a with ⟨k1, m1, n1, e1⟩ | ⟨k1, c1, l1, v1⟩ <;> rcases b with ⟨k2, m2, n2, e2⟩ | ⟨k2, c2, l2, v2⟩
  · obtain ⟨o1, es1, ep1, ho1, hd1, _, hm1⟩ := n1
    obtain ⟨o2, es2, ep2, ho2, hd2, _, hm2⟩ := n2
    rw [ho1] at ho2; cases ho2
    rw [hd1] at hd2; cases hd2
    rw [← hm1] at e1; rw [← hm2] at e2
    rw [e1] at e2; cases e2; rfl
  · rcases k2 with k2 | ⟨k2, _⟩ <;> (rw [k1] at k2; cases k2)
  · rcases k1 with k1 | ⟨k1, _⟩ <;> (rw [k1] at k2; cases k2)
  · rw [l1] at l2; cases l2
    obtain ⟨o1, ho1, hd1⟩ := v1
    obtain ⟨o2, ho2, hd2⟩ := v2
    rw [ho1] at ho2; cases ho2
    rw [hd1] at hd2; cases hd2; rfl

section
variable {X : Act} {n : Nat} {ρ : Rho}

/-- a name is stored -/
theorem store_name {A : Around} {s : Shared} {x : Str} {v : Value} {d : D} {E : Value → Shared → Prop} {Q : Unit → Shared → Prop} (hE : EnvOk X s.heap ρ) (hr : Rd X.mu s.heap v d)
    (hx : X.env.kindOf x = some .local ∨ (X.env.kindOf x = some .cell ∧ X.oc = X.env.cells.map (·.2) ∧ (X.env.cells.lookup x).isSome = true))
    (hQ : ∀ s', KpB X s s' → EnvOk X s'.heap ((x, d) :: ρ) → Rd X.mu s'.heap v d → KSeq s.heap s'.heap → Q () s') : wpAny X.C.M A (storeName X.env x v) Q E s := by
  obtain ⟨m, hn⟩ := hE.ns
  rcases hx with hx | ⟨hx, hoc, hc⟩
  · refine wpAny_storeName_local hx hn (fun h' hn' hs => ?_) (by rw [hE.kind]; rfl)
    have kq : KSeq s.heap h' := .sameBut hs (not_seq_of_ns hn)
    refine hQ _ ⟨h', _, rfl, fun b o hb e => (hs.2 b (fun q => hb (by rw [q]; exact .head _))).trans e⟩ ?_ (hr.kseq kq) kq
    refine { at_ := fun b o q => (hs.2 b (fun q' => ?_)).trans (hE.at_ b o q), fresh := hE.fresh, ns := ⟨_, hn'⟩, cells := fun p hp => ?_, oc := hE.oc, nodup := hE.nodup, seqs := fun a ha => ?_, kind := hE.kind, glob := hE.glob, blt := hE.blt, vals := fun y e hy => ?_ }
    · have := hE.fresh _ (.head _ : X.env.locals ∈ X.own)
      rw [← q', q] at this; cases this
    · obtain ⟨u, hu⟩ := hE.cells p hp
      obtain ⟨o, ho, hd⟩ := id hu
      exact ⟨u, o, (hs.2 _ (Ne.symm (ns_ne_cell hn hu))).trans ho, hd⟩
    · obtain ⟨its, hl⟩ := hE.seqs a ha
      exact ⟨its, hl.extBut hs.extBut (list_ne_ns hl hn)⟩
    · by_cases hxy : y = x
      · subst hxy
        simp at hy; subst hy
        exact ⟨v, .inl ⟨hx, _, hn', by simp⟩, hr.kseq kq⟩
      · have e1 : (y == x) = false := by simpa using hxy
        rw [List.lookup_cons, e1] at hy
        obtain ⟨u, hb, hu⟩ := hE.vals y e hy
        refine ⟨u, ?_, hu.kseq kq⟩
        rcases hb with ⟨a, m2, hn2, hm2⟩ | ⟨a, c, hc, hv⟩
        · have : m y = some u := by
            have b1 : Bnd s.heap X.env y u := .inl ⟨a, m2, hn2, hm2⟩
            obtain ⟨o1, es1, ep1, ho1, hd1, _, hm1⟩ := hn
            obtain ⟨o2, es2, ep2, ho2, hd2, _, hm2'⟩ := hn2
            rw [ho1] at ho2; cases ho2
            rw [hd1] at hd2; cases hd2
            rw [← hm1, hm2', hm2]
          exact .inl ⟨a, _, hn', by simp [hxy, this]⟩
        · obtain ⟨o, ho, hd⟩ := id hv
          exact .inr ⟨a, c, hc, o, (hs.2 _ (Ne.symm (ns_ne_cell hn hv))).trans ho, hd⟩
  · obtain ⟨c, hc⟩ := Option.isSome_iff_exists.mp hc
    have hcm := lookup_mem_snd hc
    obtain ⟨v0, hv0⟩ := hE.cells _ hcm
    have hco : c ∈ X.own := .tail _ (List.mem_append_left _ (hoc ▸ List.mem_map.mpr ⟨_, hcm, rfl⟩))
    refine wpAny_storeName_cell hE.kind hx hc hv0 (fun h' hv' hs => ?_)
    have kq : KSeq s.heap h' := .sameBut hs (not_seq_of_cell hv0)
    refine hQ _ ⟨h', s.toks, rfl, fun b o hb e => (hs.2 b (fun q => hb (by rw [q]; exact hco))).trans e⟩ ?_ (hr.kseq kq) kq
    refine { at_ := fun b o q => (hs.2 b (fun q' => ?_)).trans (hE.at_ b o q), fresh := hE.fresh, ns := ⟨m, hn.sameBut hs (ns_ne_cell hn hv0)⟩, cells := fun p hp => ?_, oc := hE.oc, nodup := hE.nodup, seqs := fun a ha => ?_, kind := hE.kind, glob := hE.glob, blt := hE.blt, vals := fun y e hy => ?_ }
    · have := hE.fresh _ hco
      rw [← q', q] at this; cases this
    · by_cases hpc : p.2 = c
      · rw [hpc]; exact ⟨_, hv'⟩
      · obtain ⟨u, o, ho, hd⟩ := hE.cells p hp
        exact ⟨u, o, (hs.2 _ hpc).trans ho, hd⟩
    · obtain ⟨its, hl⟩ := hE.seqs a ha
      exact ⟨its, hl.extBut hs.extBut (list_ne_cell hl hv0)⟩
    · by_cases hxy : y = x
      · subst hxy
        simp at hy; subst hy
        exact ⟨v, .inr ⟨.inl hx, c, hc, hv'⟩, hr.kseq kq⟩
      · have e1 : (y == x) = false := by simpa using hxy
        rw [List.lookup_cons, e1] at hy
        obtain ⟨u, hb, hu⟩ := hE.vals y e hy
        refine ⟨u, ?_, hu.kseq kq⟩
        rcases hb with ⟨a, m2, hn2, hm2⟩ | ⟨a, c2, hc2, hv2⟩
        · exact .inl ⟨a, m2, hn2.sameBut hs (ns_ne_cell hn2 hv0), hm2⟩
        · obtain ⟨o, ho, hd⟩ := id hv2
          exact .inr ⟨a, c2, hc2, o, (hs.2 _ (fun q => hxy (lookup_inj hE.nodup (q ▸ hc2) hc))).trans ho, hd⟩

theorem Ex1.assign {x : Str} {px pos : Pos} {e : Expr} {d : D} (h : Ev X n ρ e d)
    (hx : X.env.kindOf x = some .local ∨ (X.env.kindOf x = some .cell ∧ X.oc = X.env.cells.map (·.2) ∧ (X.env.cells.lookup x).isSome = true))
    (hs : swapsWith e (some (.Name x px)) pos.line X.env = pure false) : Ex1 X n ρ (.Assign [.Name x px] e pos) (.next ((x, d) :: ρ)) := by
  intro A s E Q hA hE hQ
  refine wpAny_Assign_Name (h A s hA hE E _ fun v s' k r => ?_) hs
  exact store_name (hE.keeps k.all) r hx fun s'' kb hE' _ _ => hQ _ s'' ((KpB.of_kp k).trans kb) ⟨rfl, hE'⟩
end
end Mine

namespace Mine

def NotSeq (h : Heap) (b : Addr) : Prop := ∀ o its n, h.get? b = some o → o.data ≠ .seq its n
theorem KSeq.but {h h' : Heap} {wr : List Addr} (k : ∀ b o, b ∉ wr → h.get? b = some o → h'.get? b = some o) (hq : ∀ b ∈ wr, NotSeq h b) : KSeq h h' := fun a o its n e d => by
  by_cases ha : a ∈ wr
  · exact absurd d (hq a ha o its n e)
  · exact k a o ha e

theorem EnvOk.but {X : Act} {h h' : Heap} {ρ : Rho} {wr : List Addr} (e : EnvOk X h ρ) (k : ∀ b o, b ∉ wr → h.get? b = some o → h'.get? b = some o) (hb : ∀ b ∈ wr, X.C.base.get? b = none)
    (ho : ∀ b ∈ wr, b ∉ X.own) (hce : ∀ p ∈ X.env.cells, p.2 ∉ wr) (hq : ∀ b ∈ wr, NotSeq h b) : EnvOk X h' ρ := by
  have own : ∀ b o, b ∈ X.own → h.get? b = some o → h'.get? b = some o := fun b o hbo q => k b o (fun hw => ho b hw hbo) q
  have hL : X.env.locals ∈ X.own := .head _
  have kns : ∀ m, h.Ns X.env.locals m → h'.Ns X.env.locals m := fun m hn => hn.at' fun o q => own _ o hL q
  have kc : ∀ p ∈ X.env.cells, ∀ v, h.IsCell p.2 v → h'.IsCell p.2 v := fun p hp v ⟨o, ho, hd⟩ => ⟨o, k _ o (hce p hp) ho, hd⟩
  have kq := KSeq.but k hq
  refine { at_ := fun b o q => k b o (fun hw => ?_) (e.at_ b o q), fresh := e.fresh, ns := let ⟨m, hm⟩ := e.ns; ⟨m, kns m hm⟩, cells := fun p hp => let ⟨v, hv⟩ := e.cells p hp; ⟨v, kc p hp _ hv⟩, oc := e.oc, nodup := e.nodup, seqs := fun a ha => ?_, kind := e.kind, glob := e.glob, blt := e.blt, vals := fun x d hx => ?_ }
  · have := hb b hw; rw [q] at this; cases this
  · obtain ⟨its, o, ho', r⟩ := e.seqs a ha
    exact ⟨its, o, own _ _ (.tail _ (List.mem_append_right _ ha)) ho', r⟩
  · obtain ⟨v, hbd, hr⟩ := e.vals x d hx
    refine ⟨v, ?_, hr.kseq kq⟩
    rcases hbd with ⟨a, m, hn, hm⟩ | ⟨a, c, hc, hv⟩
    · exact .inl ⟨a, m, kns m hn, hm⟩
    · exact .inr ⟨a, c, hc, kc _ (lookup_mem_snd hc) _ hv⟩

/-- every sequence object of h but those of mu stands in h' -/
def KSeqM (mu : List Addr) (h h' : Heap) : Prop := ∀ a o its n, a ∉ mu → h.get? a = some o → o.data = .seq its n → h'.get? a = some o
theorem KSeq.m {mu : List Addr} {h h' : Heap} (k : KSeq h h') : KSeqM mu h h' := fun a o its n _ e d => k a o its n e d
theorem KSeqM.trans {mu : List Addr} {h h' h'' : Heap} (a : KSeqM mu h h') (b : KSeqM mu h' h'') : KSeqM mu h h'' := fun x _ _ _ m e d => b _ _ _ _ m (a _ _ _ _ m e d) d
theorem KSeqM.nil {h h' : Heap} (a : KSeqM [] h h') : KSeq h h' := fun x _ _ _ e d => a _ _ _ _ (by simp) e d
/-- an iterator that stands at its first item; s₀: the state ahead of it -/
def IterAt (X : Act) (A : Around) (s₀ s : Shared) (it : Value) (ds : List D) : Prop :=
  ∃ I fp wr P St, it = .ref I ∧ Walks X.C.prog X.C.w A I fp wr ds.length P St ∧ St 0 s.heap ∧ (∀ b ∈ fp, b < s.heap.objs.size ∧ b ∉ X.own) ∧ (∀ b ∈ wr, s₀.heap.get? b = none) ∧
    (∀ i h, St i h → ∀ b ∈ wr, NotSeq h b) ∧ ∀ i v, P i v → ∃ d, ds[i]? = some d ∧ ∀ h', KSeqM X.mu s.heap h' → Rd X.mu h' v d

/-- the expression is iterated over the data ds -/
def It (X : Act) (n : Nat) (ρ : Rho) (e : Expr) (ds : List D) : Prop :=
  ∀ A s E (Q : Value → Shared → Prop), Ok n A → EnvOk X s.heap ρ → (∀ it s', Kp s s' → IterAt X A s s' it ds → Q it s') →
    wpAny X.C.M A (eval e X.env) (fun x s₁ => wpAny X.C.M A (pyIter x) Q E s₁) E s

section
variable {X : Act} {n : Nat} {ρ : Rho}

theorem new_get {h : Heap} {b : Addr} (hb : h.objs.size ≤ b) : h.get? b = none := by
  cases e : h.get? b with
  | none => rfl
  | some o => exact absurd (Heap.lt_size e) (Nat.not_lt.mpr hb)
theorem own_lt {s : Shared} (hE : EnvOk X s.heap ρ) : ∀ b ∈ X.own, b < s.heap.objs.size := by
  intro b hb
  rcases List.mem_cons.mp hb with rfl | hb
  · obtain ⟨m, hm⟩ := hE.ns; exact hm.lt
  rcases List.mem_append.mp hb with hb | hb
  · obtain ⟨p, hp, rfl⟩ := hE.oc _ hb
    obtain ⟨v, o, ho, _⟩ := hE.cells p hp
    exact Heap.lt_size ho
  · obtain ⟨its, o, ho, _⟩ := hE.seqs b hb
    exact Heap.lt_size ho
theorem list_not_own {s : Shared} {a : Addr} {vs : Array Value} (hE : EnvOk X s.heap ρ) (hl : s.heap.IsList a vs) (hm : a ∉ X.mu) : a ∉ X.own := by
  intro hb
  rcases List.mem_cons.mp hb with rfl | hb
  · obtain ⟨m, hm⟩ := hE.ns; exact list_ne_ns hl hm rfl
  rcases List.mem_append.mp hb with hb | hb
  · obtain ⟨p, hp, e⟩ := hE.oc _ hb
    obtain ⟨v, hv⟩ := hE.cells p hp
    exact list_ne_cell hl (e ▸ hv) rfl
  · exact hm hb

theorem It.list' {e : Expr} {ds : List D} (h : Ev X n ρ e (.list ds)) (hrk : ∀ h h' v d, d ∈ ds → KSeqM X.mu h h' → Rd X.mu h v d → Rd X.mu h' v d) : It X n ρ e ds := by
  intro A s E Q hA hE hQ
  refine h A s hA hE E _ fun v s1 k1 r1 => ?_
  cases r1 with
  | @list a vs _ hl hm hr =>
    have hE1 := hE.keeps k1.all
    obtain ⟨o, ho, _⟩ := id hl
    have hne : a ≠ s1.heap.objs.size := Nat.ne_of_lt (Heap.lt_size ho)
    have W := Walks.list (prog := X.C.prog) (w := X.C.w) hA.handled s1.heap.objs.size a hne vs.toArray
    have hlen : vs.toArray.size = ds.length := by rw [List.size_toArray, hr.length]
    rw [hlen] at W
    refine wpAny_pyIter_list hl (hQ _ _ (k1.trans .push) ⟨_, _, _, _, _, rfl, W, ⟨⟨_, Heap.get?_push_size _ rfl, rfl, rfl⟩, hl.push _⟩, ?_, ?_, ?_, ?_⟩)
    · intro b hb
      have hs : b < (s1.heap.push { cls := .type "list_iterator", data := .fields #[.ref a, .int 0 0] }).objs.size := by
        rw [Heap.size_push]
        rcases List.mem_cons.mp hb with rfl | hb
        · exact Nat.lt_succ_self _
        · rw [List.mem_singleton.mp hb]; exact Nat.lt_succ_of_lt (Heap.lt_size ho)
      refine ⟨hs, ?_⟩
      rcases List.mem_cons.mp hb with rfl | hb
      · exact fun q => absurd (own_lt hE1 _ q) (Nat.lt_irrefl _)
      · rw [List.mem_singleton.mp hb]; exact list_not_own hE1 hl hm
    · intro b hb
      rw [List.mem_singleton.mp hb]
      cases q : s.heap.get? s1.heap.objs.size with
      | none => rfl
      | some o => exact absurd (Heap.lt_size (k1.all _ _ q)) (Nat.lt_irrefl _)
    · rintro i h' ⟨⟨o', ho', _, hd'⟩, _⟩ b hb o2 its n2 e2 d2
      rw [List.mem_singleton.mp hb, ho'] at e2; cases e2
      rw [hd'] at d2; cases d2
    · intro i v hv
      obtain ⟨d, hd, hrd⟩ := hr.get' (by simpa using hv)
      exact ⟨d, hd, fun h' kk => hrk _ _ _ _ (List.mem_of_getElem? hd) kk (hrd.kseq (.of_all fun _ _ e => Heap.get?_push_of_some _ e))⟩
theorem It.list {e : Expr} {ds : List D} (h : Ev X n ρ e (.list ds)) (hmu : X.mu = []) : It X n ρ e ds :=
  It.list' h fun h h' v d _ kk hr => hr.kseq (by rw [hmu] at kk; exact kk.nil)

theorem It.bytes {e : Expr} {b : Array UInt8} (h : Ev X n ρ e (.bytes b)) : It X n ρ e (b.toList.map fun c => D.int (c.toNat : Int)) := by
  intro A s E Q hA hE hQ
  refine h A s hA hE E _ fun v s1 k1 r1 => ?_
  cases r1 with
  | bytes _ t =>
    have hE1 := hE.keeps k1.all
    have W := KBw.walks (prog := X.C.prog) (w := X.C.w) hA.handled s1.heap.objs.size b t
    have hlen : b.size = (b.toList.map fun c => D.int (c.toNat : Int)).length := by simp
    rw [hlen] at W
    refine KBw.pyIter_bytes (hQ _ _ (k1.trans .push) ⟨_, _, _, _, _, rfl, W, ⟨_, Heap.get?_push_size _ rfl, rfl, rfl⟩, ?_, ?_, ?_, ?_⟩)
    · intro b hb
      rw [List.mem_singleton.mp hb]
      exact ⟨by rw [Heap.size_push]; exact Nat.lt_succ_self _, fun q => absurd (own_lt hE1 _ q) (Nat.lt_irrefl _)⟩
    · intro b hb
      rw [List.mem_singleton.mp hb]
      cases q : s.heap.get? s1.heap.objs.size with
      | none => rfl
      | some o => exact absurd (Heap.lt_size (k1.all _ _ q)) (Nat.lt_irrefl _)
    · rintro i h' ⟨o', ho', _, hd'⟩ b hb o2 its n2 e2 d2
      rw [List.mem_singleton.mp hb, ho'] at e2; cases e2
      rw [hd'] at d2; cases d2
    · rintro i v ⟨c, u, hc, rfl⟩
      exact ⟨_, by simp [hc], fun _ _ => .int ..⟩

theorem Ex1.for_ {x : Str} {px pos : Pos} {iter : Expr} {body : List Stmt} {ds : List D} (ρs : Nat → Rho) (hit : It X n ρ iter ds) (h0 : Sub ρ (ρs 0))
    (hx : X.env.kindOf x = some .local ∨ (X.env.kindOf x = some .cell ∧ X.oc = X.env.cells.map (·.2) ∧ (X.env.cells.lookup x).isSome = true))
    (hb : ∀ i d, ds[i]? = some d → Ex X n ((x, d) :: ρs i) body (.next (ρs (i + 1)))) (hs : ∀ x, foldedSetIterable iter X.env x = pure x := by intro _; rfl) :
    Ex1 X n ρ (.For (.Name x px) iter body [] pos) (.next (ρs ds.length)) := by
  intro A s E Q hA hE hQ
  refine wpAny_For (hit A s E _ hA hE fun it s1 k1 hI => ?_) hs
  obtain ⟨I, fp, wr, P, St, rfl, W, hst, hfp, hwr, hns, hP⟩ := hI
  have hwb : ∀ b ∈ wr, X.C.base.get? b = none := fun b hb => by
    cases q : X.C.base.get? b with
    | none => rfl
    | some o => have := hE.at_ b o q; rw [hwr b hb] at this; cases this
  have hwo : ∀ b ∈ wr, b ∉ X.own := fun b hb => (hfp b (W.sub b hb)).2
  have hce : ∀ p ∈ X.env.cells, p.2 ∉ wr := fun p hp hw => by
    obtain ⟨v, o, ho, _⟩ := hE.cells p hp
    rw [hwr _ hw] at ho; cases ho
  refine codeAny_forLoop (prog := X.C.prog) (w := X.C.w) (fun k s' => ∃ i, i ≤ ds.length ∧ k = ds.length + 1 - i ∧ EnvOk X s'.heap (ρs i) ∧ St i s'.heap ∧ KpB X s s' ∧ KSeqM X.mu s1.heap s'.heap) ?_ (ds.length + 1)
    ⟨0, Nat.zero_le _, rfl, (hE.keeps k1.all).sub h0, hst, .of_kp k1, (KSeq.refl _).m⟩
  rintro k s' ⟨i, hi, rfl, hE', hst', kb, kq⟩
  have step : ∀ {h₁ : Heap} {tk : Nat}, (∀ b o, b ∉ wr → s'.heap.get? b = some o → h₁.get? b = some o) → KpB X s { s' with heap := h₁, toks := tk } := by
    intro h₁ tk hk
    obtain ⟨h', tk', rfl, kk⟩ := kb
    exact ⟨h₁, tk, rfl, fun b o hb e => hk b o (fun hw => by have := hwr b hw; rw [e] at this; cases this) (kk b o hb e)⟩
  by_cases hlt : i < ds.length
  · refine W.item i s' _ _ hlt hst' fun v h₁ tk hPv hst₁ hk₁ => ?_
    obtain ⟨d, hd, hr⟩ := hP i v hPv
    have kq₁ : KSeq s'.heap h₁ := KSeq.but hk₁ (hns i _ hst')
    have hE₁ : EnvOk X h₁ (ρs i) := hE'.but hk₁ hwb hwo hce (hns i _ hst')
    dsimp only
    refine wpAny_assign_Name (store_name (X := X) (s := { s' with heap := h₁, toks := tk }) hE₁ (hr _ (kq.trans kq₁.m)) hx fun s₂ kb₂ hE₂ _ kq₂ => ?_)
    refine hb i d hd A s₂ _ _ hA hE₂ fun f s₃ kb₃ p => ?_
    obtain ⟨rfl, hE₃⟩ := p
    have kall := kb₂.trans kb₃
    refine ⟨ds.length + 1 - (i + 1), by omega, i + 1, hlt, rfl, hE₃, ?_, (step hk₁).trans kall, ?_⟩
    · exact W.frame _ _ _ hst₁ fun b hbf o e => kall.all b o (hfp b hbf).2 e
    · intro a o its m hmu e dd
      have e1 : h₁.get? a = some o := kq₁ _ _ _ _ (kq _ _ _ _ hmu e dd) dd
      by_cases ho : a ∈ X.own
      · rcases List.mem_cons.mp ho with rfl | ho
        · obtain ⟨m', hm'⟩ := hE₁.ns; exact absurd dd (not_seq_of_ns hm' _ _ _ e1)
        rcases List.mem_append.mp ho with ho | ho
        · obtain ⟨p, hp, rfl⟩ := hE₁.oc _ ho
          obtain ⟨v', hv'⟩ := hE₁.cells p hp
          exact absurd dd (not_seq_of_cell hv' _ _ _ e1)
        · exact absurd ho hmu
      · exact kall.all a o ho e1
  · have hin : i = ds.length := by omega
    subst hin
    refine W.done s' _ _ hst' fun h₁ tk hk₁ => ?_
    dsimp only
    refine wpAny_execs_nil (hQ _ _ (step hk₁) ⟨rfl, hE'.but hk₁ hwb hwo hce (hns _ _ hst')⟩)
end
end Mine

namespace Mine

section
variable {X : Act} {n : Nat} {ρ : Rho}
theorem Ex1.while_ {test : Expr} {body : List Stmt} {pos : Pos} (N : Nat) (ρs : Nat → Rho) (h0 : Sub ρ (ρs 0)) (ht : ∀ i, i < N → Tr X n (ρs i) test true)
    (hb : ∀ i, i < N → Ex X n (ρs i) body (.next (ρs (i + 1)))) (hf : Tr X n (ρs N) test false) : Ex1 X n ρ (.While test body [] pos) (.next (ρs N)) := by
  intro A s E Q hA hE hQ
  refine wpAny_While (codeAny_whileLoop (prog := X.C.prog) (w := X.C.w) (fun k s' => ∃ i, i ≤ N ∧ k = N - i ∧ EnvOk X s'.heap (ρs i) ∧ KpB X s s') ?_ N ⟨0, Nat.zero_le _, rfl, hE.sub h0, .refl s⟩)
  rintro k s' ⟨i, hi, rfl, hE', kb⟩
  by_cases hlt : i < N
  · refine ht i hlt A s' _ _ hA hE' fun s₂ k₂ => ?_
    simp only [if_true]
    refine hb i hlt A s₂ _ _ hA (hE'.keeps k₂.all) fun f s₃ k₃ p => ?_
    obtain ⟨rfl, hE₃⟩ := p
    exact ⟨N - (i + 1), by omega, i + 1, hlt, rfl, hE₃, (kb.trans (.of_kp k₂)).trans k₃⟩
  · have : i = N := by omega
    subst this
    refine hf A s' _ _ hA hE' fun s₂ k₂ => ?_
    simp only [Bool.false_eq_true, if_false]
    exact wpAny_execs_nil (hQ _ _ (kb.trans (.of_kp k₂)) ⟨rfl, hE'.keeps k₂.all⟩)

/-- a global or built-in name -/
structure Gl (X : Act) (x : Str) (v : Value) : Prop where
  kind : X.env.kindOf x = some .globalImplicit
  hd : (x == ("__debug__" : Str)) = false
  val : X.C.mg x = some v ∨ (X.C.mg x = none ∧ X.C.mb x = some v)

theorem Gl.run {x : Str} {v : Value} {pos : Pos} {A : Around} {s : Shared} {E Q : Value → Shared → Prop} (hg : Gl X x v) (hE : EnvOk X s.heap ρ) (hQ : Q v s) : wpAny X.C.M A (eval (.Name x pos) X.env) Q E s := by
  refine Name_function_global hE.kind hg.kind ?_ hg.hd
  rcases hg.val with h | ⟨h0, h1⟩
  · exact loadGlobal_global (by rw [hE.glob]; exact X.C.g.keeps hE.at_) h hQ
  · exact loadGlobal_builtin (by rw [hE.glob]; exact X.C.g.keeps hE.at_) h0 (by rw [hE.blt]; exact X.C.b.keeps hE.at_) h1 hQ

theorem Ev.glob {x : Str} {v : Value} {pos : Pos} {d : D} (hg : Gl X x v) (hr : ∀ h, Rd X.mu h v d) : Ev X n ρ (.Name x pos) d :=
  fun A s hA hE E Q hQ => hg.run hE (hQ v s (.refl s) (hr _))

/-- what may be called -/
def Callee (C : Cx) (v : Value) : Prop := (∃ id, v = .builtin id) ∨ (∃ T, v = .type T) ∨ ∃ f o fd, v = .ref f ∧ C.base.get? f = some o ∧ o.data = .func fd

/-- a function, called with these data (ks: by the keywords kw), gives d -/
def FnOk (C : Cx) (mu : List Addr) (n : Nat) (fv : Value) (kw : List Str) (ds ks : List D) (d : D) : Prop :=
  ∀ A s vs us, Ok n A → C.At s.heap → RdAll mu s.heap vs ds → RdAll mu s.heap us ks → Gv C mu A (call fv vs (kw.zip us)) d s

theorem Ev.call {f : Str} {fp pos : Pos} {fv : Value} {e : Expr} {es : List Expr} {ds : List D} {d : D} (hg : Gl X f fv) (hc : Callee X.C fv) (ha : Evs X n ρ (e :: es) ds)
    (hop : FnOk X.C X.mu n fv [] ds [] d)
    (hpl : (∃ g, fv = .ref g) ∨ (backTo pos (starEach es X.env)).any (·.1) = false)
    (he : starEach (e :: es) X.env = (false, eval e X.env) :: starEach es X.env := by rfl) : Ev X n ρ (.Call (.Name f fp) (e :: es) [] pos) d := by
  intro A s hA hE E Q hQ
  refine wpAny_Call_NameR (hg.run hE ?_)
  have hargs : ∀ Q' : Args → Shared → Prop, (∀ vs s', Kp s s' → RdAll X.mu s'.heap vs ds → Q' ⟨vs, []⟩ s') → wpAny X.C.M A (evalArgs fv true (backTo pos (starEach (e :: es) X.env)) []) Q' E s := by
    intro Q' h'
    have := ha A s E (fun vs s' => Q' ⟨vs, []⟩ s') pos hA hE h'
    rw [he] at this ⊢
    exact evalArgs_plain this
  have hcall : ∀ vs s', Kp s s' → RdAll X.mu s'.heap vs ds → wpAny X.C.M A (PySem.call fv ([] ++ vs) []) Q E s' := by
    intro vs s' k r
    exact hop A s' vs [] hA (hE.keeps k.all).at_ r .nil E Q fun v s'' k' r' => hQ v s'' (k.trans k') r'
  rcases hc with ⟨id, rfl⟩ | ⟨T, rfl⟩ | ⟨g, o, fd, rfl, hg', hd⟩
  · refine callWith_builtin ?_ (hargs _ hcall)
    rcases hpl with ⟨g, h⟩ | h
    · cases h
    · rw [he]; simpa [backTo] using h
  · refine PySem.callWith_type ?_ (hargs _ hcall)
    rcases hpl with ⟨g, h⟩ | h
    · cases h
    · rw [he]; simpa [backTo] using h
  · exact callWith_function (o := o) (fd := fd) (hargs _ fun vs s' k r => ⟨⟨(hE.keeps k.all).at_ _ _ hg', hd⟩, hcall vs s' k r⟩)

/-- a starred list at the end of a row -/
theorem Evs.star {e : Expr} {p : Pos} {ds : List D} (h : Ev X n ρ e (.list ds)) (hsz : ds.length ≤ 1000000) : Evs X n ρ [.Starred e p] ds := by
  intro A s E Q pos hA hE hQ
  refine items_star (h A s hA hE E _ fun v s1 k1 r1 => ?_)
  cases r1 with
  | @list a vs _ hl hm hr =>
    obtain ⟨o, ho, hc, m, hd⟩ := id hl
    unfold StarOf notIterableAtAll
    refine wpAny_bind (wpAny_specialOf hl.typeIs PySem.F.slot_list_iter.lookup (wpAny_pure ⟨rfl, ?_⟩))
    have hlen := hr.length
    refine wpAny_collect_seq a (.inl rfl) ho hc hd (fun h' hk => ?_) (by rw [List.size_toArray, sizeLine_eq]; omega)
    refine args_nil (hQ _ _ (k1.trans (.ofH hk)) ?_)
    simpa using hr.kseq (.of_all hk)
end

/-- the bound parameters, read -/
inductive BindRd (h : Heap) : List (Str × Value) → Rho → Prop
  | nil : BindRd h [] []
  | cons {x : Str} {v : Value} {d : D} {bs : List (Str × Value)} {ρ : Rho} : Rd [] h v d → BindRd h bs ρ → BindRd h ((x, v) :: bs) ((x, d) :: ρ)

theorem BindRd.kseq {h h' : Heap} (k : KSeq h h') : ∀ {bs : List (Str × Value)} {ρ : Rho}, BindRd h bs ρ → BindRd h' bs ρ
  | _, _, .nil => .nil
  | _, _, .cons a r => .cons (a.kseq k) (BindRd.kseq k r)
theorem BindRd.names {h : Heap} : ∀ {bs : List (Str × Value)} {ρ : Rho}, BindRd h bs ρ → bs.map (·.1) = ρ.map (·.1)
  | _, _, .nil => rfl
  | _, _, .cons _ r => by simp [BindRd.names r]

theorem bindL_other {kd : Str → Option NameKind} {x : Str} : ∀ (bs : List (Str × Value)) (m : Str → Option Value), x ∉ bs.map (·.1) → bindL kd bs m x = m x
  | [], _, _ => rfl
  | (y, v) :: r, m, h => by
    simp only [List.map_cons, List.mem_cons, not_or] at h
    unfold bindL
    rw [bindL_other r _ h.2]
    split
    · simp [h.1]
    · rfl
theorem bindC_other {kd : Str → Option NameKind} {x : Str} : ∀ (bs : List (Str × Value)) (m : Str → Option Value), x ∉ bs.map (·.1) → bindC kd bs m x = m x
  | [], _, _ => rfl
  | (y, v) :: r, m, h => by
    simp only [List.map_cons, List.mem_cons, not_or] at h
    unfold bindC
    rw [bindC_other r _ h.2]
    split
    · rfl
    · simp [h.1]
theorem BindRd.local_ {h : Heap} {kd : Str → Option NameKind} {x : Str} {d : D} (hk : kd x = some .local) : ∀ {bs : List (Str × Value)} {ρ : Rho} (m : Str → Option Value), BindRd h bs ρ → (ρ.map (·.1)).Nodup → ρ.lookup x = some d →
    ∃ v, bindL kd bs m x = some v ∧ Rd [] h v d
  | _, _, m, .nil, _, e => by simp at e
  | _, _, m, .cons (x := y) (v := v) a r, hn, e => by
    simp only [List.map_cons, List.nodup_cons] at hn
    by_cases hxy : x = y
    · subst hxy
      simp at e; subst e
      refine ⟨v, ?_, a⟩
      unfold bindL
      rw [bindL_other _ _ (by rw [r.names]; exact hn.1), if_pos hk]
      simp
    · have e1 : (x == y) = false := by simpa using hxy
      rw [List.lookup_cons, e1] at e
      unfold bindL
      exact BindRd.local_ hk _ r hn.2 e
theorem BindRd.cell_ {h : Heap} {kd : Str → Option NameKind} {x : Str} {d : D} (hk : ¬ kd x = some .local) : ∀ {bs : List (Str × Value)} {ρ : Rho} (m : Str → Option Value), BindRd h bs ρ → (ρ.map (·.1)).Nodup → ρ.lookup x = some d →
    ∃ v, bindC kd bs m x = some v ∧ Rd [] h v d
  | _, _, m, .nil, _, e => by simp at e
  | _, _, m, .cons (x := y) (v := v) a r, hn, e => by
    simp only [List.map_cons, List.nodup_cons] at hn
    by_cases hxy : x = y
    · subst hxy
      simp at e; subst e
      refine ⟨v, ?_, a⟩
      unfold bindC
      rw [bindC_other _ _ (by rw [r.names]; exact hn.1), if_neg hk]
      simp
    · have e1 : (x == y) = false := by simpa using hxy
      rw [List.lookup_cons, e1] at e
      unfold bindC
      exact BindRd.cell_ hk _ r hn.2 e

theorem cellsFrom_mem_lookup {names : List (Str × NameKind)} {L : Nat} (hnd : ((cellsFrom 0 names []).map (·.1)).Nodup) {x : Str} {c : Addr} (h : (x, c) ∈ cellsFrom L names []) : (cellsFrom L names []).lookup x = some c :=
  lookup_of_mem_nodup (cellsFrom_names names 0 L [] [] rfl ▸ hnd) h

structure Fun (C : Cx) (f : Addr) (fd : FuncData) (body : List Stmt) : Prop where
  obj : ∃ o, C.base.get? f = some o ∧ o.data = .func fd
  code : C.base.CodeRec fd.code fd.qualname
  body_ : fd.body = .stmts body
  glob : fd.globals = mainGlobals
  blt : fd.builtins = builtinsNs
  clos : fd.closure = []
  kind : fd.scope.kind = .function
  gen : fd.scope.isGenerator = false
  co : fd.scope.isCoroutine = false
  names : ((cellsFrom 0 fd.scope.names []).map (·.1)).Nodup

theorem Fun.callee {C : Cx} {f : Addr} {fd : FuncData} {body : List Stmt} (h : Fun C f fd body) : Callee C (.ref f) := let ⟨o, ho, hd⟩ := h.obj; .inr (.inr ⟨f, o, fd, rfl, ho, hd⟩)

theorem fn_ok {C : Cx} {f : Addr} {fd : FuncData} {body : List Stmt} {n : Nat} {kw : List Str} {ds ks : List D} {d : D} {ρ₀ : Rho} (F : Fun C f fd body)
    (hnd : (ρ₀.map (·.1)).Nodup)
    (hkind : ∀ L, ∀ p ∈ ρ₀, fd.scope.names.lookup p.1 = some .local ∨ (fd.scope.names.lookup p.1 = some .cell ∧ ((cellsFrom (L + 1) fd.scope.names []).lookup p.1).isSome = true))
    (hb : ∀ A s vs us E (Q : List (Str × Value) → Shared → Prop), RdAll [] s.heap vs ds → RdAll [] s.heap us ks → C.At s.heap → (∀ binds s', Kp s s' → BindRd s'.heap binds ρ₀ → Q binds s') → wpAny C.M A (bindArgs fd ⟨vs, kw.zip us⟩) Q E s)
    (hex : ∀ L, Ex (.fn C (callEnvC fd L f)) n ρ₀ body (.ret d)) : FnOk C [] (n + 1) (.ref f) kw ds ks d := by
  intro A s vs us hA hC rv ru E Q hQ
  obtain ⟨o, ho, hd⟩ := F.obj
  refine wpAny_call (codeAny_call_function (by have := hA.depth; omega) (hC _ _ ho) hd F.co F.gen F.body_ (F.code.keeps hC) ?_)
  refine hb _ s vs us _ _ rv ru hC fun binds s₁ k₁ rb => ?_
  have hC₁ : C.At s₁.heap := fun b o e => k₁.all b o (hC b o e)
  rw [F.clos]
  refine wpAny_newFunctionEnv_cells F.kind (fun x hx => ?_) ?_
  · have hm : x.1 ∈ ρ₀.map (·.1) := rb.names ▸ List.mem_map.mpr ⟨x, hx, rfl⟩
    obtain ⟨p, hp, e⟩ := List.mem_map.mp hm
    rw [← e]; exact hkind _ p hp
  · intro env henv s₂ hin
    have hk₂ := hin.toInCall.keep
    have hC₂ : C.At s₂.heap := fun b o e => hk₂ b o (hC₁ b o e)
    refine ⟨C.lim.keeps hC₂, ?_⟩
    have henv' : env = callEnvC fd s₁.heap.objs.size f := by rw [henv, callEnvC, F.glob, F.blt]
    rw [henv'] at hin ⊢
    have hE : EnvOk (.fn C (callEnvC fd s₁.heap.objs.size f)) s₂.heap ρ₀ := by
      refine { at_ := hC₂, fresh := fun a ha => ?_, ns := ⟨_, hin.toInCall.ns⟩, cells := fun p hp => ⟨_, hin.cell p.1 p.2 (cellsFrom_mem_lookup F.names hp)⟩, oc := fun a ha => let ⟨p, hp, e⟩ := List.mem_map.mp ha; ⟨p, hp, e⟩, nodup := ?_, seqs := fun a ha => (by cases ha), kind := F.kind, glob := F.glob, blt := F.blt, vals := fun x d' hx => ?_ }
      · cases q : C.base.get? a with
        | none => rfl
        | some o' =>
          have hlt := Heap.lt_size (hC₁ _ _ q)
          rcases List.mem_cons.mp ha with rfl | ha
          · exact absurd hlt (Nat.lt_irrefl _)
          · rcases List.mem_append.mp ha with ha | ha
            · obtain ⟨p, hp, rfl⟩ := List.mem_map.mp ha
              exact absurd (Nat.lt_trans (hin.above p.1 p.2 hp) hlt) (Nat.lt_irrefl _)
            · cases ha
      · exact List.pairwise_map.mpr hin.apart
      · have hp : (x, d') ∈ ρ₀ := mem_of_lookup hx
        have rb' := rb.kseq (.of_all hk₂)
        rcases hkind s₁.heap.objs.size _ hp with hl | ⟨hl, hc⟩
        · obtain ⟨v, e, r⟩ := BindRd.local_ (kd := (callEnvC fd s₁.heap.objs.size f).kindOf) hl (fun _ => none) rb' hnd hx
          exact ⟨v, .inl ⟨hl, _, hin.toInCall.ns, e⟩, r⟩
        · obtain ⟨c, hc⟩ := Option.isSome_iff_exists.mp hc
          obtain ⟨v, e, r⟩ := BindRd.cell_ (kd := (callEnvC fd s₁.heap.objs.size f).kindOf) (by show ¬ fd.scope.names.lookup x = _; rw [hl]; decide) (fun _ => none) rb' hnd hx
          exact ⟨v, .inr ⟨.inl hl, c, hc, e ▸ hin.cell x c hc⟩, r⟩
    refine codeAny_func (hex _ _ s₂ _ _ ?_ hE fun fl s₃ k₃ p => ?_)
    · exact ⟨hA.handled, by have := hA.depth; show A.depth + 1 + n < _; omega, by have := hA.units; show A.units + 3 + 10 * n + 100 < _; omega⟩
    · obtain ⟨v, rfl, r⟩ := p
      have kfin : Kp s s₃ := by
        obtain ⟨h₁, t₁, rfl, kk₁⟩ := k₁
        obtain ⟨h₂, t₂, rfl⟩ := hin.toInCall.same
        obtain ⟨h₃, t₃, rfl, kk₃⟩ := k₃
        refine ⟨h₃, t₃, rfl, fun b o e => kk₃ b o (fun hbo => ?_) (hk₂ b o (kk₁ b o e))⟩
        have hlt := Heap.lt_size (kk₁ b o e)
        rcases List.mem_cons.mp hbo with rfl | hbo
        · exact absurd hlt (Nat.lt_irrefl _)
        · rcases List.mem_append.mp hbo with hbo | hbo
          · obtain ⟨p, hp, rfl⟩ := List.mem_map.mp hbo
            exact absurd (Nat.lt_trans (hin.above p.1 p.2 hp) hlt) (Nat.lt_irrefl _)
          · cases hbo
      exact hQ v s₃ kfin r
end Mine

namespace Mine

mutual
/-- no list within that may change -/
def NoM : D → Prop
  | .list ds => NoMs ds
  | .tuple ds => NoMs ds
  | .mlist _ _ => False
  | _ => True
def NoMs : List D → Prop
  | [] => True
  | d :: ds => NoM d ∧ NoMs ds
end
theorem NoMs.append : ∀ {a b : List D}, NoMs a → NoMs b → NoMs (a ++ b)
  | [], _, _, h => h
  | _ :: _, _, h, k => by simp only [List.cons_append, NoMs] at h ⊢; exact ⟨h.1, NoMs.append h.2 k⟩
theorem NoMs.mem : ∀ {l : List D}, NoMs l → ∀ d ∈ l, NoM d
  | _ :: _, h, d, hd => by
    simp only [NoMs] at h
    rcases List.mem_cons.mp hd with rfl | hd
    · exact h.1
    · exact NoMs.mem h.2 d hd
theorem NoMs.of : ∀ {l : List D}, (∀ d ∈ l, NoM d) → NoMs l
  | [], _ => trivial
  | _ :: _, h => ⟨h _ (.head _), NoMs.of fun d hd => h d (.tail _ hd)⟩

mutual
theorem Rd.kseqM {mu : List Addr} {h h' : Heap} (k : KSeqM mu h h') : ∀ {v : Value} {d : D}, NoM d → Rd mu h v d → Rd mu h' v d
  | _, _, _, .none => .none
  | _, _, _, .bool b => .bool b
  | _, _, _, .int i t => .int i t
  | _, _, _, .str x t => .str x t
  | _, _, _, .bytes b t => .bytes b t
  | _, _, _, .ty T => .ty T
  | _, _, hn, .list ⟨o, ho, hc, n, hd⟩ hm r => .list ⟨o, k _ _ _ _ hm ho hd, hc, n, hd⟩ hm (RdAll.kseqM k (by simpa only [NoM] using hn) r)
  | _, _, hn, .tuple ⟨o, ho, hc, n, hd⟩ hm r => .tuple ⟨o, k _ _ _ _ hm ho hd, hc, n, hd⟩ hm (RdAll.kseqM k (by simpa only [NoM] using hn) r)
  | _, _, hn, .mlist _ _ _ => by simp only [NoM] at hn
theorem RdAll.kseqM {mu : List Addr} {h h' : Heap} (k : KSeqM mu h h') : ∀ {vs : List Value} {ds : List D}, NoMs ds → RdAll mu h vs ds → RdAll mu h' vs ds
  | _, _, _, .nil => .nil
  | _, _, hn, .cons a r => by simp only [NoMs] at hn; exact .cons (Rd.kseqM k hn.1 a) (RdAll.kseqM k hn.2 r)
end
mutual
theorem Rd.fresh {h : Heap} {a : Addr} (hf : h.get? a = none) : ∀ {v : Value} {d : D}, Rd [] h v d → Rd [a] h v d
  | _, _, .none => .none
  | _, _, .bool b => .bool b
  | _, _, .int i t => .int i t
  | _, _, .str x t => .str x t
  | _, _, .bytes b t => .bytes b t
  | _, _, .ty T => .ty T
  | _, _, .list hl hm r => .list hl (fun q => by obtain ⟨o, ho, _⟩ := hl; rw [List.mem_singleton.mp q, hf] at ho; cases ho) (RdAll.fresh hf r)
  | _, _, .tuple hl hm r => .tuple hl (fun q => by obtain ⟨o, ho, _⟩ := hl; rw [List.mem_singleton.mp q, hf] at ho; cases ho) (RdAll.fresh hf r)
  | _, _, .mlist hl hm r => by cases hm
theorem RdAll.fresh {h : Heap} {a : Addr} (hf : h.get? a = none) : ∀ {vs : List Value} {ds : List D}, RdAll [] h vs ds → RdAll [a] h vs ds
  | _, _, .nil => .nil
  | _, _, .cons a r => .cons (Rd.fresh hf a) (RdAll.fresh hf r)
end
mutual
theorem Rd.drop {mu : List Addr} {h : Heap} : ∀ {v : Value} {d : D}, NoM d → Rd mu h v d → Rd [] h v d
  | _, _, _, .none => .none
  | _, _, _, .bool b => .bool b
  | _, _, _, .int i t => .int i t
  | _, _, _, .str x t => .str x t
  | _, _, _, .bytes b t => .bytes b t
  | _, _, _, .ty T => .ty T
  | _, _, hn, .list hl hm r => .list hl (by simp) (RdAll.dropM (by simpa only [NoM] using hn) r)
  | _, _, hn, .tuple hl hm r => .tuple hl (by simp) (RdAll.dropM (by simpa only [NoM] using hn) r)
  | _, _, hn, .mlist _ _ _ => by simp only [NoM] at hn
theorem RdAll.dropM {mu : List Addr} {h : Heap} : ∀ {vs : List Value} {ds : List D}, NoMs ds → RdAll mu h vs ds → RdAll [] h vs ds
  | _, _, _, .nil => .nil
  | _, _, hn, .cons a r => by simp only [NoMs] at hn; exact .cons (Rd.drop hn.1 a) (RdAll.dropM hn.2 r)
end

theorem KpB.kseqM {X : Act} {ρ : Rho} {s s' : Shared} (hE : EnvOk X s.heap ρ) (k : KpB X s s') : KSeqM X.mu s.heap s'.heap := by
  intro a o its m hmu e dd
  by_cases ho : a ∈ X.own
  · rcases List.mem_cons.mp ho with rfl | ho
    · obtain ⟨m', hm'⟩ := hE.ns; exact absurd dd (not_seq_of_ns hm' _ _ _ e)
    rcases List.mem_append.mp ho with ho | ho
    · obtain ⟨p, hp, rfl⟩ := hE.oc _ ho
      obtain ⟨v', hv'⟩ := hE.cells p hp
      exact absurd dd (not_seq_of_cell hv' _ _ _ e)
    · exact absurd ho hmu
  · exact k.all a o ho e

/-- a list that may change has changed -/
theorem EnvOk.app {X : Act} {ρ : Rho} {h h' : Heap} {a : Addr} {its : Array Value} (hE : EnvOk X h ρ) (hρ : ∀ x d, ρ.lookup x = some d → NoM d) (ha : a ∈ X.mu) (hs : Heap.SameBut a h h') (hl' : h'.IsList a its) : EnvOk X h' ρ := by
  obtain ⟨its0, hl⟩ := hE.seqs a ha
  obtain ⟨m, hn⟩ := hE.ns
  have km : KSeqM X.mu h h' := fun b o i n hb e d => (hs.2 b (fun q => hb (q ▸ ha))).trans e
  have kc : ∀ p ∈ X.env.cells, ∀ v, h.IsCell p.2 v → h'.IsCell p.2 v := fun p hp v hv => by
    obtain ⟨o, ho, hd⟩ := id hv
    exact ⟨o, (hs.2 _ (Ne.symm (list_ne_cell hl hv))).trans ho, hd⟩
  refine { at_ := fun b o q => (hs.2 b (fun q' => ?_)).trans (hE.at_ b o q), fresh := hE.fresh, ns := ⟨m, hn.sameBut hs (Ne.symm (list_ne_ns hl hn))⟩, cells := fun p hp => let ⟨v, hv⟩ := hE.cells p hp; ⟨v, kc p hp v hv⟩, oc := hE.oc, nodup := hE.nodup, seqs := fun b hb => ?_, kind := hE.kind, glob := hE.glob, blt := hE.blt, vals := fun x d hx => ?_ }
  · have := hE.fresh _ (.tail _ (List.mem_append_right _ ha) : a ∈ X.own)
    rw [← q', q] at this; cases this
  · by_cases hba : b = a
    · rw [hba]; exact ⟨_, hl'⟩
    · obtain ⟨its, o, ho, r⟩ := hE.seqs b hb
      exact ⟨its, o, (hs.2 b hba).trans ho, r⟩
  · obtain ⟨v, hbd, hr⟩ := hE.vals x d hx
    refine ⟨v, ?_, hr.kseqM km (hρ x d hx)⟩
    rcases hbd with ⟨a', m2, hn2, hm2⟩ | ⟨a', c, hc, hv⟩
    · exact .inl ⟨a', m2, hn2.sameBut hs (Ne.symm (list_ne_ns hl hn2)), hm2⟩
    · exact .inr ⟨a', c, hc, kc _ (lookup_mem_snd hc) _ hv⟩

def Tests (X : Act) (n : Nat) (ρ : Rho) (ifs : List Expr) (b : Bool) : Prop :=
  ∀ A s E (Q : Bool → Shared → Prop), Ok n A → EnvOk X s.heap ρ → (∀ s', Kp s s' → Q b s') →
    wpAny X.C.M A (forIn ifs true fun c r => if r = true then do let ok ← isTrue c X.env (eval c X.env); pure (ForInStep.yield ok) else pure (ForInStep.yield r)) Q E s
theorem Tests.nil {X : Act} {n : Nat} {ρ : Rho} : Tests X n ρ [] true := fun A s E Q _ _ hQ => wpAny_tests_nil (hQ s (.refl s))
theorem Tests.one {X : Act} {n : Nat} {ρ : Rho} {c : Expr} {b : Bool} (h : Tr X n ρ c b) : Tests X n ρ [c] b := fun A s E Q hA hE hQ => wpAny_tests_one (h A s E Q hA hE hQ)

/-- a tree that puts outs behind the list at the address L -/
def Inner (X : Act) (n : Nat) (L : Addr) (ρ : Rho) (t : Sem Unit) (outs : List D) : Prop :=
  ∀ A s E (Q : Unit → Shared → Prop) vs acc, Ok n A → EnvOk X s.heap ρ → s.heap.IsList L vs.toArray → RdAll X.mu s.heap vs acc → NoMs acc → acc.length + outs.length ≤ 1000000 →
    (∀ s' vs', KpB X s s' → EnvOk X s'.heap ρ → s'.heap.IsList L vs'.toArray → RdAll X.mu s'.heap vs' (acc ++ outs) → Q () s') → wpAny X.C.M A t Q E s

/-- such a tree, and the next turn -/
def InnerK (X : Act) (n : Nat) (L : Addr) (ρ : Rho) (t : Sem PySem.Fin) (c : Code) (outs : List D) : Prop :=
  ∀ A s E (Q : PySem.Fin → Shared → Prop) vs acc, Ok n A → EnvOk X s.heap ρ → s.heap.IsList L vs.toArray → RdAll X.mu s.heap vs acc → NoMs acc → acc.length + outs.length ≤ 1000000 →
    (∀ s' vs', KpB X s s' → EnvOk X s'.heap ρ → s'.heap.IsList L vs'.toArray → RdAll X.mu s'.heap vs' (acc ++ outs) → Q (.again c) s') → wpAny X.C.M A t Q E s
theorem Inner.k {X : Act} {n : Nat} {L : Addr} {ρ : Rho} {t : Sem Unit} {c : Code} {outs : List D} (h : Inner X n L ρ t outs) : InnerK X n L ρ (t >>= fun _ => again c) c outs :=
  fun A s E Q vs acc hA hE hl hr hn hs hQ => wpAny_bind (h A s E _ vs acc hA hE hl hr hn hs fun s' vs' a b c d => wpAny_pure (hQ s' vs' a b c d))

theorem Inner.emit {X : Act} {n : Nat} {L : Addr} {ρ : Rho} {elt : Expr} {d : D} (hL : L ∈ X.mu) (hρ : ∀ x d, ρ.lookup x = some d → NoM d) (hn : NoM d) (h : Ev X n ρ elt d) :
    Inner X n L ρ (do let _ ← call (.builtin "list.append") [.ref L, ← eval elt X.env]) [d] := by
  intro A s E Q vs acc hA hE hl hr hna hsz hQ
  refine wpAny_bind (h A s hA hE E _ fun v s1 k1 r1 => wpAny_bind ?_)
  have hE1 := hE.keeps k1.all
  have hl1 : s1.heap.IsList L vs.toArray := hl.at fun o e => k1.all _ o e
  have hlen := hr.length
  simp only [List.length_singleton] at hsz
  refine wpAny_list_append (hsz := by rw [List.size_toArray, sizeLine_eq]; omega) hl1 fun h' hl' hs => wpAny_pure ?_
  have km : KSeqM X.mu s1.heap h' := fun b o i n hb e d => (hs.2 b (fun q => hb (q ▸ hL))).trans e
  refine hQ _ (vs ++ [v]) ((KpB.of_kp k1).trans ⟨h', s1.toks, rfl, fun b o hb e => (hs.2 b (fun q => hb (q ▸ .tail _ (List.mem_append_right _ hL)))).trans e⟩) (hE1.app hρ hL hs hl') ?_ ?_
  · have : (vs ++ [v]).toArray = vs.toArray.push v := by simp
    rw [this]; exact hl'
  · exact ((hr.kseq k1.kseq).kseqM km hna).append (.cons (r1.kseqM km hn) .nil)

theorem comp_loop {X : Act} {n : Nat} {L : Addr} (hL : L ∈ X.mu) {e : Expr} {depth : Nat} {x : Str} {px p0 : Pos} {ifs : List Expr} {tl : Sem PySem.Fin} {it : Value} {ds : List D} {g : D → List D} {ρ : Rho} {A : Around} {s₀ s : Shared} {R : Result → Shared → Prop}
    (hturn : compTurn e depth it (.ref L) X.env = (do
      standAt p0
      match ← pyNext it with
      | none => pure (.done .next)
      | some v =>
        letOwnedTupleGo (.Name x px) it v
        assign (.Name x px) X.env v
        let ok ← forIn ifs true fun c r => if r = true then do let ok ← isTrue c X.env (eval c X.env); pure (ForInStep.yield ok) else pure (ForInStep.yield r)
        if ok = true then tl else again (.compLoop e depth it (.ref L) X.env)))
    (hfr : (Code.compLoop e depth it (.ref L) X.env).isFrame = false) (hun : A.under (.compLoop e depth it (.ref L) X.env) = A) (hqt : (Code.compLoop e depth it (.ref L) X.env).quiet = true)
    (hit : IterAt X A s₀ s it ds) (k0 : Kp s₀ s) (hat : X.C.At s₀.heap) (hcel : ∀ p ∈ X.env.cells, ∃ o, s₀.heap.get? p.2 = some o) (hx : X.env.kindOf x = some .local) (hxn : ρ.lookup x = none)
    (hd : NoMs ds) (hρ : ∀ x d, ρ.lookup x = some d → NoM d)
    (hin : ∀ d ∈ ds, ∃ b, Tests X n ((x, d) :: ρ) ifs b ∧ (b = true → InnerK X n L ((x, d) :: ρ) tl (.compLoop e depth it (.ref L) X.env) (g d)) ∧ (b = false → g d = []))
    (hg : ∀ d ∈ ds, NoMs (g d))
    (hA : Ok n A) (hE : EnvOk X s.heap ρ) {vs : List Value} {acc : List D} (hl : s.heap.IsList L vs.toArray) (hr : RdAll X.mu s.heap vs acc) (hna : NoMs acc) (hsz : acc.length + (ds.flatMap g).length ≤ 1000000)
    (hR : ∀ s' vs', KpB X s₀ s' → EnvOk X s'.heap ρ → s'.heap.IsList L vs'.toArray → RdAll X.mu s'.heap vs' (acc ++ ds.flatMap g) → R (.ok .next) s') :
    codeAny X.C.M A (.compLoop e depth it (.ref L) X.env) R s := by
  obtain ⟨I, fp, wr, P, St, rfl, W, hst, hfp, hwr, hns, hP⟩ := hit
  have hwb : ∀ b ∈ wr, X.C.base.get? b = none := fun b hb => by
    cases q : X.C.base.get? b with
    | none => rfl
    | some o => have := hat b o q; rw [hwr b hb] at this; cases this
  have hwo : ∀ b ∈ wr, b ∉ X.own := fun b hb => (hfp b (W.sub b hb)).2
  have hce : ∀ p ∈ X.env.cells, p.2 ∉ wr := fun p hp hw => by
    obtain ⟨o, ho⟩ := hcel p hp
    rw [hwr _ hw] at ho; cases ho
  have hLo : L ∈ X.own := .tail _ (List.mem_append_right _ hL)
  have hLw : L ∉ wr := fun hw => hwo _ hw hLo
  refine codeAny_loop (M := X.C.M) hqt (fun k s' => ∃ i vs', i ≤ ds.length ∧ k = ds.length + 1 - i ∧ EnvOk X s'.heap ρ ∧ St i s'.heap ∧ KpB X s₀ s' ∧ KSeqM X.mu s.heap s'.heap ∧
    s'.heap.IsList L vs'.toArray ∧ RdAll X.mu s'.heap vs' (acc ++ (ds.take i).flatMap g)) ?_ (ds.length + 1)
    ⟨0, vs, Nat.zero_le _, rfl, hE, hst, .of_kp k0, (KSeq.refl _).m, hl, by simpa using hr⟩
  rintro k s' ⟨i, vs', hi, rfl, hE', hst', kb, kq, hl', hr'⟩
  rw [hun]
  have hden : X.C.M.den (.compLoop e depth (.ref I) (.ref L) X.env) = (compTurn e depth (.ref I) (.ref L) X.env).onRaise (fun x => do noteFrame x X.env; theTreesLotGoes x) := by
    show (if (Code.compLoop e depth (.ref I) (.ref L) X.env).isFrame then _ else _) = _
    rw [hfr]; rfl
  rw [hden, hturn]
  refine wpAny_noted (wpAny_bind (wpAny_standAt (wpAny_bind ?_)))
  have step : ∀ {h₁ : Heap} {tk : Nat}, (∀ b o, b ∉ wr → s'.heap.get? b = some o → h₁.get? b = some o) → KpB X s₀ { s' with heap := h₁, toks := tk } := by
    intro h₁ tk hk
    obtain ⟨h', tk', rfl, kk⟩ := kb
    exact ⟨h₁, tk, rfl, fun b o hb e => hk b o (fun hw => by have := hwr b hw; rw [e] at this; cases this) (kk b o hb e)⟩
  have nacc : NoMs (acc ++ (ds.take i).flatMap g) := hna.append (.of fun d hdm => by
    obtain ⟨d0, h0, h1⟩ := List.mem_flatMap.mp hdm
    exact (hg d0 (List.mem_of_mem_take h0)).mem _ h1)
  by_cases hlt : i < ds.length
  · refine W.item i s' _ _ hlt hst' fun v h₁ tk hPv hst₁ hk₁ => ?_
    obtain ⟨d, hdi, hrd⟩ := hP i v hPv
    have hdm : d ∈ ds := List.mem_of_getElem? hdi
    have kq₁ : KSeq s'.heap h₁ := KSeq.but hk₁ (hns i _ hst')
    have hE₁ : EnvOk X h₁ ρ := hE'.but hk₁ hwb hwo hce (hns i _ hst')
    have hl₁ : h₁.IsList L vs'.toArray := hl'.at fun o e => hk₁ _ o hLw e
    have hr₁ := hr'.kseq kq₁
    dsimp only
    refine wpAny_bind (wpAny_pure ?_)
    refine wpAny_bind (wpAny_assign_Name (store_name (X := X) (s := { s' with heap := h₁, toks := tk }) hE₁ (hrd _ (kq.trans kq₁.m)) (.inl hx) fun s₂ kb₂ hE₂ _ kq₂ => ?_))
    obtain ⟨b, hT, hT1, hT2⟩ := hin d hdm
    refine wpAny_bind (hT A s₂ _ _ hA hE₂ fun s₃ k₃ => ?_)
    have hE₃ := hE₂.keeps k₃.all
    have hLL : L ≠ X.env.locals := fun q => by
      obtain ⟨m, hm⟩ := hE₁.ns
      exact list_ne_ns hl₁ hm q
    have htake : ds.take (i + 1) = ds.take i ++ [d] := by simp [List.take_add_one, hdi]
    have hl₂ : s₂.heap.IsList L vs'.toArray := let ⟨o, ho, hc, m, hd⟩ := hl₁; ⟨o, kq₂ _ _ _ _ ho hd, hc, m, hd⟩
    have hl₃ : s₃.heap.IsList L vs'.toArray := hl₂.at fun o e => k₃.all _ o e
    have hr₃ := (hr₁.kseq kq₂).kseq k₃.kseq
    have hsum : (acc ++ (ds.take i).flatMap g).length + (g d).length ≤ 1000000 := by
      have e1 : (ds.take (i + 1)).flatMap g = (ds.take i).flatMap g ++ g d := by rw [htake]; simp
      have e2 : ((ds.take (i + 1)).flatMap g).length ≤ (ds.flatMap g).length := by
        conv => rhs; rw [← List.take_append_drop (i + 1) ds, List.flatMap_append, List.length_append]
        omega
      rw [e1, List.length_append] at e2
      rw [List.length_append]; omega
    have fin : ∀ s₄ vs₄, KpB X s₃ s₄ → EnvOk X s₄.heap ρ → s₄.heap.IsList L vs₄.toArray → RdAll X.mu s₄.heap vs₄ (acc ++ (ds.take (i + 1)).flatMap g) →
        ∃ m, m < ds.length + 1 - i ∧ ∃ i vs', i ≤ ds.length ∧ m = ds.length + 1 - i ∧ EnvOk X s₄.heap ρ ∧ St i s₄.heap ∧ KpB X s₀ s₄ ∧ KSeqM X.mu s.heap s₄.heap ∧ s₄.heap.IsList L vs'.toArray ∧ RdAll X.mu s₄.heap vs' (acc ++ (ds.take i).flatMap g) := by
      intro s₄ vs₄ kb₄ hE₄ hl₄ hr₄
      have kall : KpB X { s' with heap := h₁, toks := tk } s₄ := (kb₂.trans (.of_kp k₃)).trans kb₄
      exact ⟨ds.length + 1 - (i + 1), by omega, i + 1, vs₄, hlt, rfl, hE₄, W.frame _ _ _ hst₁ fun b hbf o e => kall.all b o (hfp b hbf).2 e, (step hk₁).trans kall, (kq.trans kq₁.m).trans (KpB.kseqM (s := { s' with heap := h₁, toks := tk }) hE₁ kall), hl₄, hr₄⟩
    have hsub : Sub ((x, d) :: ρ) ρ := fun y e hy => by
      by_cases hyx : y = x
      · rw [hyx, hxn] at hy; cases hy
      · have e1 : (y == x) = false := by simpa using hyx
        rw [List.lookup_cons, e1]; exact hy
    cases b with
    | false =>
      refine wpAny_pure ⟨rfl, ?_⟩
      refine fin s₃ vs' (.refl _) (hE₃.sub hsub) hl₃ ?_
      rw [htake, List.flatMap_append]
      simpa [hT2 rfl] using hr₃
    | true =>
      refine hT1 rfl A s₃ _ _ vs' _ hA hE₃ hl₃ hr₃ nacc hsum fun s₄ vs₄ kb₄ hE₄ hl₄ hr₄ => ⟨rfl, fin s₄ vs₄ kb₄ (hE₄.sub hsub) hl₄ ?_⟩
      rw [htake, List.flatMap_append]
      simpa [List.append_assoc] using hr₄
  · have hin' : i = ds.length := by omega
    subst hin'
    refine W.done s' _ _ hst' fun h₁ tk hk₁ => ?_
    dsimp only
    refine wpAny_pure ?_
    have kq₁ : KSeq s'.heap h₁ := KSeq.but hk₁ (hns _ _ hst')
    refine hR _ vs' (step hk₁) (hE'.but hk₁ hwb hwo hce (hns _ _ hst')) (hl'.at fun o e => hk₁ _ o hLw e) ?_
    have := hr'.kseq kq₁
    rwa [List.take_length] at this

theorem It.listM {X : Act} {n : Nat} {ρ : Rho} {e : Expr} {ds : List D} (h : Ev X n ρ e (.list ds)) (hn : NoMs ds) : It X n ρ e ds :=
  It.list' h fun h h' v d hd kk hr => hr.kseqM kk (hn.mem d hd)

theorem comp_start {X : Act} {A : Around} {elt : Expr} {gens : List Comprehension} {scope : Scope} {pos : Pos} {depth : Nat} {it acc : Value} {g : Comprehension} {R : Result → Shared → Prop} {s : Shared}
    (hg : gens[depth]? = some g) (hga : g.is_async = 0) (hfr : (Code.compStart (.ListComp elt gens scope pos) depth it acc X.env).isFrame = false)
    (hun : A.under (.compStart (.ListComp elt gens scope pos) depth it acc X.env) = A) (hqt : (Code.compLoop (.ListComp elt gens scope pos) depth it acc X.env).quiet = true)
    (hs : ∀ E (Q : Value → Shared → Prop), Q it s → wpAny X.C.M A (pyIter it) Q E s)
    (h : codeAny X.C.M A (.compLoop (.ListComp elt gens scope pos) depth it acc X.env) R s) : codeAny X.C.M A (.compStart (.ListComp elt gens scope pos) depth it acc X.env) R s := by
  refine codeAny_of_tree ?_
  rw [hun]
  have hden : X.C.M.den (.compStart (.ListComp elt gens scope pos) depth it acc X.env) = (compStart (.ListComp elt gens scope pos) depth it acc X.env).onRaise (fun x => do noteFrame x X.env; standAt theWindowsPlace) := by
    show (if (Code.compStart (.ListComp elt gens scope pos) depth it acc X.env).isFrame then (compStart (.ListComp elt gens scope pos) depth it acc X.env).onRaise (leaving X.env) else (compStart (.ListComp elt gens scope pos) depth it acc X.env).onRaise (fun x => do noteFrame x X.env; standAt theWindowsPlace)) = _
    rw [hfr]; rfl
  rw [hden]
  refine wpAny_notedAt ?_
  unfold compStart
  have hc : clausesOf (.ListComp elt gens scope pos) = gens := rfl
  rw [hc, hg]
  simp only [Option.elim, hga, bne_self_eq_false, Bool.false_eq_true, if_false]
  refine wpAny_bind (wpAny_askSetting ?_)
  split
  · exact wpAny_pure ⟨hqt, h⟩
  · exact wpAny_bind (wpAny_rule (wpAny_bind (wpAny_standAt (wpAny_bind (hs _ _ (wpAny_pure ⟨hqt, h⟩))))))
end Mine

namespace Mine

/-- the activation of a comprehension's block -/
abbrev Act.comp (X : Act) (scope : Scope) (cl : List (Str × Addr)) (c l : Addr) : Act := ⟨X.C, compEnvC scope cl c X.env, [], [l]⟩

/-- what the block sees of the names around it -/
structure Sees (X : Act) (ρ ρc : Rho) (scope : Scope) (cl : List (Str × Addr)) : Prop where
  clos : closureFor scope X.env = pure cl
  sub : ∀ p ∈ cl, p ∈ X.env.cells
  nodup : (cl.map (·.2)).Nodup
  vals : ∀ y e, ρc.lookup y = some e → ρ.lookup y = some e ∧ X.env.kindOf y = some .cell ∧ (relabel scope X.env).names.lookup y = some .cell ∧ cl.lookup y = X.env.cells.lookup y
  nom : ∀ y e, ρc.lookup y = some e → NoM e
  kind : scope.kind = .function
  cell : ∀ y ∈ scope.names, y.2 ≠ .cell
  names : ∀ y ∈ scope.names, y.2 = .local → scope.names.lookup y.1 = some .local

theorem Sees.env {X : Act} {ρ ρc : Rho} {scope : Scope} {cl : List (Str × Addr)} (S : Sees X ρ ρc scope cl) (hmu : X.mu = []) {s s₂ : Shared} {c l : Addr} {m : Str → Option Value} {its : Array Value}
    (hE : EnvOk X s.heap ρ) (k : ∀ b o, s.heap.get? b = some o → s₂.heap.get? b = some o) (hc : s.heap.objs.size ≤ c) (hl : s.heap.objs.size ≤ l) (hn : s₂.heap.Ns c m) (hli : s₂.heap.IsList l its) :
    EnvOk (X.comp scope cl c l) s₂.heap ρc := by
  have hE₂ := hE.keeps k
  refine { at_ := hE₂.at_, fresh := fun a ha => ?_, ns := ⟨m, hn⟩, cells := fun p hp => hE₂.cells p (S.sub p hp), oc := fun a ha => (by cases ha), nodup := S.nodup, seqs := fun a ha => ?_, kind := S.kind, glob := hE.glob, blt := hE.blt, vals := fun y e hy => ?_ }
  · cases q : X.C.base.get? a with
    | none => rfl
    | some o =>
      have hlt := Heap.lt_size (hE.at_ _ _ q)
      rcases List.mem_cons.mp ha with rfl | ha
      · exact absurd hlt (Nat.not_lt.mpr hc)
      · rw [List.mem_singleton.mp ha] at hlt
        exact absurd hlt (Nat.not_lt.mpr hl)
  · rw [List.mem_singleton.mp ha]; exact ⟨_, hli⟩
  · obtain ⟨h1, h2, h3, h4⟩ := S.vals y e hy
    obtain ⟨v, hb, hr⟩ := hE.vals y e h1
    refine ⟨v, ?_, ?_⟩
    · rcases hb with ⟨q, _⟩ | ⟨_, a, ha, hv⟩
      · rw [h2] at q; cases q
      · exact .inr ⟨.inl h3, a, h4.trans ha, hv.keeps k⟩
    · have hr' : Rd [] s.heap v e := hmu ▸ hr
      exact (hr'.fresh (new_get hl)).kseq (.of_all k)

theorem IterAt.comp {X : Act} {A : Around} {s₀ s s₂ : Shared} {it : Value} {ds : List D} {scope : Scope} {cl : List (Str × Addr)} {c l : Addr} (hmu : X.mu = []) (h : IterAt X A s₀ s it ds) (hd : NoMs ds)
    (k : ∀ b o, s.heap.get? b = some o → s₂.heap.get? b = some o) (hc : s.heap.objs.size ≤ c) (hl : s.heap.objs.size ≤ l) (hle : s.heap.objs.size ≤ s₂.heap.objs.size) : IterAt (X.comp scope cl c l) A s₀ s₂ it ds := by
  obtain ⟨I, fp, wr, P, St, rfl, W, hst, hfp, hwr, hns, hP⟩ := h
  refine ⟨I, fp, wr, P, St, rfl, W, W.frame _ _ _ hst fun b _ o e => k b o e, fun b hb => ⟨Nat.lt_of_lt_of_le (hfp b hb).1 hle, fun ho => ?_⟩, hwr, hns, fun i v hv => ?_⟩
  · have := (hfp b hb).1
    rcases List.mem_cons.mp ho with rfl | ho
    · exact absurd this (Nat.not_lt.mpr hc)
    · rw [List.mem_singleton.mp ho] at this
      exact absurd this (Nat.not_lt.mpr hl)
  · obtain ⟨d, hd', hr⟩ := hP i v hv
    refine ⟨d, hd', fun h' kk => ?_⟩
    have hr0 : Rd [] s.heap v d := hmu ▸ hr s.heap ((KSeq.refl _).m)
    exact (((hr0.fresh (new_get hl)).kseq (.of_all k)).kseqM kk (hd.mem d (List.mem_of_getElem? hd')))

theorem own_get {X : Act} {ρ : Rho} {h : Heap} (hE : EnvOk X h ρ) : ∀ b ∈ X.own, ∃ o, h.get? b = some o := by
  intro b hb
  rcases List.mem_cons.mp hb with rfl | hb
  · obtain ⟨m, o, _, _, ho, _⟩ := hE.ns; exact ⟨o, ho⟩
  rcases List.mem_append.mp hb with hb | hb
  · obtain ⟨p, hp, rfl⟩ := hE.oc _ hb
    obtain ⟨v, o, ho, _⟩ := hE.cells p hp
    exact ⟨o, ho⟩
  · obtain ⟨its, o, ho, _⟩ := hE.seqs b hb
    exact ⟨o, ho⟩

theorem IterAt.self {X : Act} {A : Around} {s₀ s : Shared} {it : Value} {ds : List D} (h : IterAt X A s₀ s it ds) : ∀ E (Q : Value → Shared → Prop), Q it s → wpAny X.C.M A (pyIter it) Q E s := by
  obtain ⟨I, fp, wr, P, St, rfl, W, hst, hfp, hwr, hns, hP⟩ := h
  exact fun E Q hQ => W.self 0 s Q E hst hQ

section
variable {X : Act} {n : Nat} {ρ ρc : Rho}

/-- a comprehension, its block given as a whole -/
theorem comp_run {elt iter : Expr} {x : Str} {px : Pos} {ifs : List Expr} {gs : List Comprehension} {scope : Scope} {pos p0 : Pos} {cl : List (Str × Addr)} {ds outs : List D} {use : Option (Value → Sem Unit)} {A : Around} {s : Shared} {E Q : Value → Shared → Prop}
    (S : Sees X ρ ρc scope cl) (hmu : X.mu = []) (hit : It X n ρ iter ds) (hd : NoMs ds) (ho : NoMs outs)
    (hA : Ok n A) (hE : EnvOk X s.heap ρ)
    (hblock : ∀ c l s₀ s₂ it R, IterAt (X.comp scope cl c l) A s₀ s₂ it ds → Kp s₀ s₂ → X.C.At s₀.heap → (∀ p ∈ cl, ∃ o, s₀.heap.get? p.2 = some o) → EnvOk (X.comp scope cl c l) s₂.heap ρc → s₂.heap.IsList l #[] →
      (∀ s' vs', KpB (X.comp scope cl c l) s₀ s' → EnvOk (X.comp scope cl c l) s'.heap ρc → s'.heap.IsList l vs'.toArray → RdAll [l] s'.heap vs' outs → R (.ok .next) s') →
      codeAny X.C.M A (.compStart (.ListComp elt (⟨.Name x px, iter, ifs, 0⟩ :: gs) scope pos) 0 it (.ref l) (compEnvC scope cl c X.env)) R s₂)
    (hQ : match use with
      | none => ∀ l s', Kp s s' → Rd [] s'.heap (.ref l) (.list outs) → Q (.ref l) s'
      | some u => ∀ l s' c m, Kp s s' → EnvOk X s'.heap ρ → Rd [] s'.heap (.ref l) (.list outs) → s'.heap.Ns c m → s.heap.get? c = none → c ≠ l →
          wpAny X.C.M A (u (.ref l)) (fun _ s'' => ∃ m, s''.heap.Ns c m ∧ ∀ h', Heap.SameBut c s''.heap h' → Q .none { s'' with heap := h' }) E s')
    (hs : ∀ x, foldedSetIterable iter X.env x = pure x) :
    wpAny X.C.M A (comprehension (.ListComp elt (⟨.Name x px, iter, ifs, 0⟩ :: gs) scope pos) scope X.env p0 (newList []) false (eval iter X.env) use) Q E s := by
  refine wpAny_comprehension_free (use := use) rfl hs S.clos S.kind S.names (hit A s E _ hA hE fun it s₁ k₁ hI => ?_)
  refine wpAny_newObj_type (wpAny_newFunctionEnv S.cell (by intro y hy; simp at hy) (fun h₁ hns₁ hsb₁ => ?_) S.kind)
  dsimp only at hns₁ hsb₁ ⊢
  generalize hH2 : s₁.heap.push { cls := .type "list", dict := none, data := .seq ([] : List Value).toArray } = H2 at hns₁ hsb₁ ⊢
  have hC : H2.objs.size = s₁.heap.objs.size + 1 := by rw [← hH2, Heap.size_push]
  have hDC : s₁.heap.objs.size ≠ H2.objs.size := by rw [hC]; exact Nat.ne_of_lt (Nat.lt_succ_self _)
  have hCle : s₁.heap.objs.size ≤ H2.objs.size := by rw [hC]; exact Nat.le_succ _
  have old : ∀ b o, s₁.heap.get? b = some o → h₁.get? b = some o := fun b o e => hsb₁.extBut b o (by rw [hC]; exact Nat.ne_of_lt (Nat.lt_succ_of_lt (Heap.lt_size e))) (Heap.get?_push_of_some _ (hH2 ▸ Heap.get?_push_of_some _ e))
  have hacc : h₁.IsList s₁.heap.objs.size #[] := ⟨_, hsb₁.extBut _ _ hDC (Heap.get?_push_of_some _ (hH2 ▸ Heap.get?_push_size _ rfl)), rfl, _, rfl⟩
  have hE₁ := hE.keeps k₁.all
  have hsz : s₁.heap.objs.size ≤ h₁.objs.size := Nat.le_of_lt (Nat.lt_of_le_of_lt hCle hns₁.lt)
  have k₂ : Kp s { s₁ with heap := h₁, toks := s₁.toks + 0 } := k₁.trans (.of old)
  refine hblock H2.objs.size s₁.heap.objs.size s { s₁ with heap := h₁, toks := s₁.toks + 0 } it _ (hI.comp (s₂ := { s₁ with heap := h₁, toks := s₁.toks + 0 }) hmu hd old hCle (Nat.le_refl _) hsz) k₂ hE.at_
    (fun p hp => let ⟨v, o, ho, _⟩ := hE.cells p (S.sub p hp); ⟨o, ho⟩) (S.env hmu (s₂ := { s₁ with heap := h₁, toks := s₁.toks + 0 }) hE₁ old hCle (Nat.le_refl _) hns₁ hacc) hacc fun s' vs' kb hE' hl' hr' => ?_
  have ks : Kp s s' := by
    obtain ⟨h', t', rfl, kk⟩ := kb
    refine ⟨h', t', rfl, fun b o e => kk b o (fun ho => ?_) e⟩
    have hlt := Heap.lt_size (k₁.all b o e)
    rcases List.mem_cons.mp ho with rfl | ho
    · exact absurd hlt (Nat.not_lt.mpr hCle)
    · rw [List.mem_singleton.mp ho] at hlt
      exact absurd hlt (Nat.lt_irrefl _)
  have hfrc : s.heap.get? H2.objs.size = none := by
    cases q : s.heap.get? H2.objs.size with
    | none => rfl
    | some o => exact absurd (Heap.lt_size (k₁.all _ _ q)) (Nat.not_lt.mpr hCle)
  obtain ⟨m', hn'⟩ := hE'.ns
  cases use with
  | none =>
    refine ⟨m', hn', fun h' hsb => ?_⟩
    have hsb : Heap.SameBut H2.objs.size s'.heap h' := hsb
    have ks' : Kp s { s' with heap := h' } := by
      obtain ⟨h'', t', rfl, kk⟩ := ks
      exact ⟨h', t', rfl, fun b o e => (hsb.2 b (fun q => by rw [q, hfrc] at e; cases e)).trans (kk b o e)⟩
    exact hQ _ _ ks' (.list (hl'.extBut hsb.extBut hDC) (by simp) (.dropM ho (hr'.kseq (.sameBut hsb (not_seq_of_ns hn')))))
  | some u =>
    exact hQ _ s' _ m' ks (hE.keeps ks.all) (.list hl' (by simp) (.dropM ho hr')) hn' hfrc (Ne.symm hDC)

theorem comp_block1 {elt iter : Expr} {x : Str} {px : Pos} {ifs : List Expr} {scope : Scope} {pos : Pos} {cl : List (Str × Addr)} {ds : List D} {g : D → List D} {A : Around} (hA : Ok n A)
    (S : Sees X ρ ρc scope cl) (hd : NoMs ds) (hx : scope.names.lookup x = some .local) (hxn : ρc.lookup x = none)
    (hg : ∀ d ∈ ds, NoMs (g d)) (hsz : (ds.flatMap g).length ≤ 1000000)
    (hin : ∀ c l, ∀ d ∈ ds, ∃ b, Tests (X.comp scope cl c l) n ((x, d) :: ρc) ifs b ∧ (b = true → ∃ y, g d = [y] ∧ Ev (X.comp scope cl c l) n ((x, d) :: ρc) elt y) ∧ (b = false → g d = [])) :
    ∀ c l s₀ s₂ it R, IterAt (X.comp scope cl c l) A s₀ s₂ it ds → Kp s₀ s₂ → X.C.At s₀.heap → (∀ p ∈ cl, ∃ o, s₀.heap.get? p.2 = some o) → EnvOk (X.comp scope cl c l) s₂.heap ρc → s₂.heap.IsList l #[] →
      (∀ s' vs', KpB (X.comp scope cl c l) s₀ s' → EnvOk (X.comp scope cl c l) s'.heap ρc → s'.heap.IsList l vs'.toArray → RdAll [l] s'.heap vs' (ds.flatMap g) → R (.ok .next) s') →
      codeAny X.C.M A (.compStart (.ListComp elt [⟨.Name x px, iter, ifs, 0⟩] scope pos) 0 it (.ref l) (compEnvC scope cl c X.env)) R s₂ := by
  intro c l s₀ s₂ it R hI k₀ hat hcel hE hl hR
  have hnom : ∀ d ∈ ds, ∀ y e, ((x, d) :: ρc : Rho).lookup y = some e → NoM e := fun d hdm y e hy => by
    by_cases hyx : y = x
    · subst hyx; simp at hy; subst hy; exact hd.mem _ hdm
    · have e1 : (y == x) = false := by simpa using hyx
      rw [List.lookup_cons, e1] at hy
      exact S.nom y e hy
  refine comp_start (X := X.comp scope cl c l) (g := ⟨.Name x px, iter, ifs, 0⟩) rfl rfl rfl rfl rfl hI.self ?_
  refine comp_loop (X := X.comp scope cl c l) (L := l) (g := g) (List.mem_singleton.mpr rfl) (x := x) (px := px) (ifs := ifs) (p0 := iter.pos) (tl := (do let _ ← call (.builtin "list.append") [.ref l, ← eval elt (compEnvC scope cl c X.env)]) >>= fun _ => again (.compLoop (.ListComp elt [⟨.Name x px, iter, ifs, 0⟩] scope pos) 0 it (.ref l) (compEnvC scope cl c X.env))) rfl rfl rfl rfl hI k₀ hat hcel (lookup_relabel_local hx) hxn hd S.nom ?_ hg hA hE
    (vs := []) (acc := []) hl .nil trivial (by simpa using hsz) fun s' vs' kb hE' hl' hr' => hR s' vs' kb hE' hl' (by simpa using hr')
  intro d hdm
  obtain ⟨b, hT, h1, h2⟩ := hin c l d hdm
  refine ⟨b, hT, fun hb => ?_, h2⟩
  obtain ⟨y, hy, hev⟩ := h1 hb
  have := hg d hdm
  rw [hy] at this ⊢
  exact (Inner.emit (X := X.comp scope cl c l) (List.mem_singleton.mpr rfl) (hnom d hdm) this.1 hev).k

/-- a list comprehension with one clause -/
theorem ev_comp {elt iter : Expr} {x : Str} {px : Pos} {ifs : List Expr} {scope : Scope} {pos : Pos} (cl : List (Str × Addr)) {ds : List D} (g : D → List D)
    (S : Sees X ρ ρc scope cl) (hmu : X.mu = []) (hit : It X n ρ iter ds) (hd : NoMs ds) (hx : scope.names.lookup x = some .local) (hxn : ρc.lookup x = none)
    (hg : ∀ d ∈ ds, NoMs (g d)) (hsz : (ds.flatMap g).length ≤ 1000000)
    (hin : ∀ c l, ∀ d ∈ ds, ∃ b, Tests (X.comp scope cl c l) n ((x, d) :: ρc) ifs b ∧ (b = true → ∃ y, g d = [y] ∧ Ev (X.comp scope cl c l) n ((x, d) :: ρc) elt y) ∧ (b = false → g d = []))
    (hs : ∀ x, foldedSetIterable iter X.env x = pure x := by intro _; rfl) :
    Ev X n ρ (.ListComp elt [⟨.Name x px, iter, ifs, 0⟩] scope pos) (.list (ds.flatMap g)) := by
  intro A s hA hE E Q hQ
  rw [eval_ListComp]
  refine comp_run (use := none) S hmu hit hd (NoMs.of fun d hdm => ?_) hA hE (comp_block1 hA S hd hx hxn hg hsz hin) (fun l s' k r => hQ _ s' k (by rw [hmu]; exact r)) hs
  obtain ⟨d0, h0, h1⟩ := List.mem_flatMap.mp hdm
  exact (hg d0 h0).mem _ h1

/-- a name is given a comprehension's list -/
theorem ex_assignComp {elt iter : Expr} {x y : Str} {px py : Pos} {ifs : List Expr} {scope : Scope} {pos spos : Pos} (cl : List (Str × Addr)) {ds : List D} (g : D → List D)
    (hsw : swapsWith (.ListComp elt [⟨.Name x px, iter, ifs, 0⟩] scope pos) (some (.Name y py)) spos.line X.env = pure true)
    (S : Sees X ρ ρc scope cl) (hmu : X.mu = []) (hit : It X n ρ iter ds) (hd : NoMs ds) (hx : scope.names.lookup x = some .local) (hxn : ρc.lookup x = none)
    (hg : ∀ d ∈ ds, NoMs (g d)) (hsz : (ds.flatMap g).length ≤ 1000000)
    (hin : ∀ c l, ∀ d ∈ ds, ∃ b, Tests (X.comp scope cl c l) n ((x, d) :: ρc) ifs b ∧ (b = true → ∃ y, g d = [y] ∧ Ev (X.comp scope cl c l) n ((x, d) :: ρc) elt y) ∧ (b = false → g d = []))
    (hy : X.env.kindOf y = some .local ∨ (X.env.kindOf y = some .cell ∧ X.oc = X.env.cells.map (·.2) ∧ (X.env.cells.lookup y).isSome = true))
    (hs : ∀ x, foldedSetIterable iter X.env x = pure x := by intro _; rfl) :
    Ex1 X n ρ (.Assign [.Name y py] (.ListComp elt [⟨.Name x px, iter, ifs, 0⟩] scope pos) spos) (.next ((y, .list (ds.flatMap g)) :: ρ)) := by
  intro A s E Q hA hE hQ
  rw [exec_Assign_Name_used _ _ _ _ hsw]
  refine wpAny_bind (wpAny_standAt (wpAny_bind ?_))
  show wpAny _ A (do let _ ← comprehension (.ListComp elt [⟨.Name x px, iter, ifs, 0⟩] scope pos) scope X.env _ (newList []) false (eval iter X.env) (some (assign (.Name y py) X.env))) _ _ s
  refine wpAny_bind (comp_run (use := some (assign (.Name y py) X.env)) (Q := fun _ s' => wpAny X.C.M A (pure ()) (fun _ s'' => wpAny X.C.M A (pure Flow.next) Q E s'') E s') S hmu hit hd (NoMs.of fun d hdm => ?_) hA hE (comp_block1 hA S hd hx hxn hg hsz hin) ?_ hs)
  · obtain ⟨d0, h0, h1⟩ := List.mem_flatMap.mp hdm
    exact (hg d0 h0).mem _ h1
  · intro l s' c m k hE' r hn hcf hcl
    refine wpAny_assign_Name (store_name hE' (hmu ▸ r) hy fun s'' kb hE'' r'' kq => ?_)
    have hco : c ∉ X.own := fun ho => by
      obtain ⟨o, q⟩ := own_get hE c ho
      rw [hcf] at q; cases q
    have hn'' : s''.heap.Ns c m := hn.at' fun o e => kb.all c o hco e
    refine ⟨m, hn'', fun h' hsb => wpAny_pure (wpAny_pure (hQ _ _ ?_ ⟨rfl, ?_⟩))⟩
    · obtain ⟨h1, t1, rfl, kk1⟩ := k
      obtain ⟨h2, t2, rfl, kk2⟩ := kb
      exact ⟨h', t2, rfl, fun b o hb e => (hsb.2 b (fun q => by rw [q, hcf] at e; cases e)).trans (kk2 b o hb (kk1 b o e))⟩
    · refine hE''.but (wr := [c]) (fun b o hb e => (hsb.2 b (fun q => hb (List.mem_singleton.mpr q))).trans e) (fun b hb => ?_) (fun b hb => ?_) (fun p hp hb => ?_) (fun b hb => ?_)
      · rw [List.mem_singleton.mp hb]
        cases q : X.C.base.get? c with
        | none => rfl
        | some o => have := hE.at_ _ _ q; rw [hcf] at this; cases this
      · rw [List.mem_singleton.mp hb]; exact hco
      · obtain ⟨v, o, ho, _⟩ := hE.cells p hp
        rw [List.mem_singleton.mp hb, hcf] at ho; cases ho
      · rw [List.mem_singleton.mp hb]; exact not_seq_of_ns hn''

/-- a clause within a clause -/
theorem inner_nest {L : Addr} {elt iter iter' : Expr} {x x' : Str} {px px' : Pos} {ifs ifs' : List Expr} {scope : Scope} {pos : Pos} {ds : List D} {g : D → List D}
    (hL : L ∈ X.mu) (hit : It X n ρ iter' ds) (hd : NoMs ds) (hx : X.env.kindOf x' = some .local) (hxn : ρ.lookup x' = none) (hρ : ∀ x d, ρ.lookup x = some d → NoM d)
    (hg : ∀ d ∈ ds, NoMs (g d))
    (hin : ∀ d ∈ ds, ∃ b, Tests X n ((x', d) :: ρ) ifs' b ∧ (b = true → ∃ y, g d = [y] ∧ Ev X n ((x', d) :: ρ) elt y) ∧ (b = false → g d = []))
    (hs : ∀ x, foldedSetIterable iter' X.env x = pure x) {cd : Code} :
    InnerK X n L ρ (do
      let xv ← eval iter' X.env
      standAt iter'.pos
      let xv ← foldedSetIterable iter' X.env xv
      let _ ← runOwn (.compStart (.ListComp elt [⟨.Name x px, iter, ifs, 0⟩, ⟨.Name x' px', iter', ifs', 0⟩] scope pos) 1 (← holding [xv] (pyIter xv)) (.ref L) X.env) X.env
      again cd) cd (ds.flatMap g) := by
  intro A s E Q vs acc hA hE hl hr hna hsz hQ
  refine wpAny_bind (wpAny_mono (hit A s E _ hA hE fun it s₁ k₁ hI => ?_) (fun xv s₁ h₁ => wpAny_bind (wpAny_standAt (wpAny_bind (wpAny_of_eq (hs xv) (wpAny_bind (wpAny_holding h₁)))))) fun _ _ e => e)
  refine wpAny_bind (wpAny_runOwn ?_)
  have hE₁ := hE.keeps k₁.all
  refine comp_start (X := X) (g := ⟨.Name x' px', iter', ifs', 0⟩) rfl rfl rfl rfl rfl hI.self ?_
  refine comp_loop (X := X) (L := L) (g := g) (p0 := iter'.pos) (x := x') (px := px') (ifs := ifs') (tl := (do let _ ← call (.builtin "list.append") [.ref L, ← eval elt X.env]) >>= fun _ => again (.compLoop (.ListComp elt [⟨.Name x px, iter, ifs, 0⟩, ⟨.Name x' px', iter', ifs', 0⟩] scope pos) 1 it (.ref L) X.env)) hL rfl rfl rfl rfl hI k₁ hE.at_ (fun p hp => let ⟨v, o, ho, _⟩ := hE.cells p hp; ⟨o, ho⟩) hx hxn hd hρ ?_ hg hA hE₁
    (vs := vs) (acc := acc) (hl.at fun o e => k₁.all _ o e) (hr.kseq k₁.kseq) hna hsz fun s' vs' kb hE' hl' hr' => wpAny_pure (hQ s' vs' kb hE' hl' hr')
  intro d hdm
  obtain ⟨b, hT, h1, h2⟩ := hin d hdm
  refine ⟨b, hT, fun hb => ?_, h2⟩
  obtain ⟨y, hy, hev⟩ := h1 hb
  have := hg d hdm
  rw [hy] at this ⊢
  refine (Inner.emit hL (fun z e hz => ?_) this.1 hev).k
  by_cases hyx : z = x'
  · subst hyx; simp at hz; subst hz; exact hd.mem _ hdm
  · have e1 : (z == x') = false := by simpa using hyx
    rw [List.lookup_cons, e1] at hz
    exact hρ z e hz

/-- a list comprehension with two clauses -/
theorem ev_comp2 {elt iter iter' : Expr} {x x' : Str} {px px' : Pos} {ifs' : List Expr} {scope : Scope} {pos : Pos} (cl : List (Str × Addr)) {ds : List D} (ds' : D → List D) (g : D → D → List D)
    (S : Sees X ρ ρc scope cl) (hmu : X.mu = []) (hit : It X n ρ iter ds) (hd : NoMs ds) (hx : scope.names.lookup x = some .local) (hxn : ρc.lookup x = none) (hx' : scope.names.lookup x' = some .local) (hxn' : ρc.lookup x' = none) (hxx : x' ≠ x)
    (hd' : ∀ d ∈ ds, NoMs (ds' d)) (hg : ∀ d ∈ ds, ∀ d' ∈ ds' d, NoMs (g d d')) (hsz : (ds.flatMap fun d => (ds' d).flatMap (g d)).length ≤ 1000000)
    (hin : ∀ c l, ∀ d ∈ ds, It (X.comp scope cl c l) n ((x, d) :: ρc) iter' (ds' d) ∧ ∀ d' ∈ ds' d, ∃ b, Tests (X.comp scope cl c l) n ((x', d') :: (x, d) :: ρc) ifs' b ∧ (b = true → ∃ y, g d d' = [y] ∧ Ev (X.comp scope cl c l) n ((x', d') :: (x, d) :: ρc) elt y) ∧ (b = false → g d d' = []))
    (hs : ∀ x, foldedSetIterable iter X.env x = pure x := by intro _; rfl) (hs' : ∀ env x, foldedSetIterable iter' env x = pure x := by intro _ _; rfl) :
    Ev X n ρ (.ListComp elt [⟨.Name x px, iter, [], 0⟩, ⟨.Name x' px', iter', ifs', 0⟩] scope pos) (.list (ds.flatMap fun d => (ds' d).flatMap (g d))) := by
  intro A s hA hE E Q hQ
  have hg1 : ∀ d ∈ ds, NoMs ((ds' d).flatMap (g d)) := fun d hdm => .of fun y hy => by
    obtain ⟨d0, h0, h1⟩ := List.mem_flatMap.mp hy
    exact (hg d hdm d0 h0).mem _ h1
  show wpAny _ A (comprehension (.ListComp elt [⟨.Name x px, iter, [], 0⟩, ⟨.Name x' px', iter', ifs', 0⟩] scope pos) scope X.env _ (newList []) false (eval iter X.env)) _ _ s
  refine comp_run (use := none) S hmu hit hd (NoMs.of fun d hdm => ?_) hA hE ?_ (fun l s' k r => hQ _ s' k (by rw [hmu]; exact r)) hs
  · obtain ⟨d0, h0, h1⟩ := List.mem_flatMap.mp hdm
    exact (hg1 d0 h0).mem _ h1
  · intro c l s₀ s₂ it R hI k₀ hat hcel hE₂ hl hR
    refine comp_start (X := X.comp scope cl c l) (g := ⟨.Name x px, iter, [], 0⟩) rfl rfl rfl rfl rfl hI.self ?_
    refine comp_loop (X := X.comp scope cl c l) (L := l) (g := fun d => (ds' d).flatMap (g d)) (p0 := iter.pos) (x := x) (px := px) (ifs := []) (tl := (do
      let xv ← eval iter' (X.comp scope cl c l).env
      standAt iter'.pos
      let xv ← foldedSetIterable iter' (X.comp scope cl c l).env xv
      let _ ← runOwn (.compStart (.ListComp elt [⟨.Name x px, iter, [], 0⟩, ⟨.Name x' px', iter', ifs', 0⟩] scope pos) 1 (← holding [xv] (pyIter xv)) (.ref l) (X.comp scope cl c l).env) (X.comp scope cl c l).env
      again (.compLoop (.ListComp elt [⟨.Name x px, iter, [], 0⟩, ⟨.Name x' px', iter', ifs', 0⟩] scope pos) 0 it (.ref l) (X.comp scope cl c l).env))) (List.mem_singleton.mpr rfl) rfl rfl rfl rfl hI k₀ hat hcel (lookup_relabel_local hx) hxn hd S.nom ?_ hg1 hA hE₂
      (vs := []) (acc := []) hl .nil trivial (by simpa using hsz) fun s' vs' kb hE' hl' hr' => hR s' vs' kb hE' hl' (by simpa using hr')
    intro d hdm
    obtain ⟨hit', hin'⟩ := hin c l d hdm
    refine ⟨true, .nil, fun _ => ?_, fun q => by cases q⟩
    refine inner_nest (X := X.comp scope cl c l) (List.mem_singleton.mpr rfl) hit' (hd' d hdm) (lookup_relabel_local hx') ?_ (fun z e hz => ?_) (hg d hdm) hin' (hs' _)
    · have e1 : (x' == x) = false := by simpa using hxx
      rw [List.lookup_cons, e1]; exact hxn'
    · by_cases hyx : z = x
      · subst hyx; simp at hz; subst hz; exact hd.mem _ hdm
      · have e1 : (z == x) = false := by simpa using hyx
        rw [List.lookup_cons, e1] at hz
        exact S.nom z e hz
end
end Mine

namespace Mine

section
variable {C : Cx} {mu : List Addr} {n : Nat}
theorem op_add {a b : Int} : Op2 C mu n (binaryOp .Add) (.int a) (.int b) (.int (a + b)) := by
  intro A s v u hA hC r1 r2 E Q hQ; cases r1; cases r2
  exact PyProof.Rows.add_int (hQ _ _ .toks (.int ..))
theorem op_sub {a b : Int} : Op2 C mu n (binaryOp .Sub) (.int a) (.int b) (.int (a - b)) := by
  intro A s v u hA hC r1 r2 E Q hQ; cases r1; cases r2
  exact PyProof.Rows.sub_int (hQ _ _ .toks (.int ..))
theorem op_mul {a b : Int} (hm : IntMulOk a b) : Op2 C mu n (binaryOp .Mult) (.int a) (.int b) (.int (a * b)) := by
  intro A s v u hA hC r1 r2 E Q hQ; cases r1; cases r2
  exact PyProof.Rows.mul_int (hQ _ _ .toks (.int ..)) hm
theorem op_fdiv {a b : Int} (hb : b ≠ 0) (hs : b.natAbs < 1073741824) : Op2 C mu n (binaryOp .FloorDiv) (.int a) (.int b) (.int (a.fdiv b)) := by
  intro A s v u hA hC r1 r2 E Q hQ; cases r1; cases r2
  exact PyProof.Rows.floordiv_int hb (hQ _ _ .toks (.int ..)) (.inl (PyProof.noPylong_small hs))
theorem op_fmod {a b : Int} (hb : b ≠ 0) : Op2 C mu n (binaryOp .Mod) (.int a) (.int b) (.int (a.fmod b)) := by
  intro A s v u hA hC r1 r2 E Q hQ; cases r1; cases r2
  exact PyProof.Rows.mod_int' hb (hQ _ _ .toks (.int ..))
theorem op_and {a b : Int} : Op2 C mu n (binaryOp .BitAnd) (.int a) (.int b) (.int (Builtin.bitAnd a b)) := by
  intro A s v u hA hC r1 r2 E Q hQ; cases r1; cases r2
  exact PyProof.Rows.and_int (hQ _ _ .toks (.int ..))
theorem op_or {a b : Int} : Op2 C mu n (binaryOp .BitOr) (.int a) (.int b) (.int (Builtin.bitOr a b)) := by
  intro A s v u hA hC r1 r2 E Q hQ; cases r1; cases r2
  exact PyProof.Rows.or_int (hQ _ _ .toks (.int ..))
theorem op_shl {a k : Int} (hn : 0 ≤ k) (hn2 : k ≤ 1000000) (ha : a.natAbs < 2 ^ 64) : Op2 C mu n (binaryOp .LShift) (.int a) (.int k) (.int (a * 2 ^ k.toNat)) := by
  intro A s v u hA hC r1 r2 E Q hQ; cases r1; cases r2
  exact PyProof.Rows.lshift_int_small hn hn2 ha (hQ _ _ .toks (.int ..))
theorem op_shr {a k : Int} (hn : 0 ≤ k) : Op2 C mu n (binaryOp .RShift) (.int a) (.int k) (.int (a.fdiv (2 ^ k.toNat))) := by
  intro A s v u hA hC r1 r2 E Q hQ; cases r1; cases r2
  exact PyProof.Rows.rshift_int hn (hQ _ _ .toks (.int ..))
theorem op_lt {a b : Int} : Op2 C mu n (compareOp .Lt) (.int a) (.int b) (.bool (decide (a < b))) := by
  intro A s v u hA hC r1 r2 E Q hQ; cases r1; cases r2
  exact PyProof.Rows.lt_int (hQ _ _ (.refl s) (.bool _))
theorem op_gt {a b : Int} : Op2 C mu n (compareOp .Gt) (.int a) (.int b) (.bool (decide (b < a))) := by
  intro A s v u hA hC r1 r2 E Q hQ; cases r1; cases r2
  exact PyProof.Rows.gt_int (hQ _ _ (.refl s) (.bool _))
theorem op_ge {a b : Int} : Op2 C mu n (compareOp .GtE) (.int a) (.int b) (.bool (decide (b ≤ a))) := by
  intro A s v u hA hC r1 r2 E Q hQ; cases r1; cases r2
  exact PyProof.Rows.ge_int (hQ _ _ (.refl s) (.bool _))
theorem op_eq {a b : Int} : Op2 C mu n (compareOp .Eq) (.int a) (.int b) (.bool (a == b)) := by
  intro A s v u hA hC r1 r2 E Q hQ; cases r1; cases r2
  exact PyProof.Rows.eq_int (hQ _ _ (.refl s) (.bool _))
theorem op_eq_str {a b : Str} : Op2 C mu n (compareOp .Eq) (.str a) (.str b) (.bool (a == b)) := by
  intro A s v u hA hC r1 r2 E Q hQ; cases r1; cases r2
  exact PyProof.Rows.eq_str (hQ _ _ (.refl s) (.bool _))
theorem op_ne_str {a b : Str} : Op2 C mu n (compareOp .NotEq) (.str a) (.str b) (.bool (a != b)) := by
  intro A s v u hA hC r1 r2 E Q hQ; cases r1; cases r2
  exact PyProof.Rows.ne_str (hQ _ _ (.refl s) (.bool _))
theorem op_ne_bool {a b : Bool} : Op2 C mu n (compareOp .NotEq) (.bool a) (.bool b) (.bool (a != b)) := by
  intro A s v u hA hC r1 r2 E Q hQ; cases r1; cases r2
  exact PyProof.Rows.ne_bool (hQ _ _ (.refl s) (.bool _))
theorem op_in_chr {x : Str} {c : Nat} : Op2 C mu n (compareOp .In) (.str ⟨#[c]⟩) (.str x) (.bool (decide (c ∈ x.cps.toList))) := by
  intro A s v u hA hC r1 r2 E Q hQ; cases r1; cases r2
  refine PySem.P.in_str ?_
  rw [StrLaws.found_one]
  exact hQ _ _ (.refl s) (.bool _)
theorem op_is_ty {a b : String} : Op2 C mu n (compareOp .Is) (.ty a) (.ty b) (.bool (decide (a = b))) := by
  intro A s v u hA hC r1 r2 E Q hQ; cases r1; cases r2
  refine wpAny_is_plain rfl ?_
  by_cases h : a = b
  · subst h
    rw [show (Value.type a == Value.type a) = decide (a = a) by simp]
    exact hQ _ _ (.refl s) (.bool _)
  · rw [show (Value.type a == Value.type b) = decide (a = b) by simp [h]]
    exact hQ _ _ (.refl s) (.bool _)
theorem op_is_none_bool {a : Bool} : Op2 C mu n (compareOp .Is) (.bool a) .none (.bool false) := by
  intro A s v u hA hC r1 r2 E Q hQ; cases r1; cases r2
  exact is_none_ne (by intro x; cases x) (hQ _ _ (.refl s) (.bool _))
theorem op_isnot_none_none : Op2 C mu n (compareOp .IsNot) .none .none (.bool false) := by
  intro A s v u hA hC r1 r2 E Q hQ; cases r1; cases r2
  exact isnot_none_none (hQ _ _ (.refl s) (.bool _))
theorem op_add_str {x y : Str} (hz : x.length + y.length ≤ 1000000) : Op2 C mu n (binaryOp .Add) (.str x) (.str y) (.str (x ++ y)) := by
  intro A s v u hA hC r1 r2 E Q hQ; cases r1; cases r2
  exact PyProof.Rows.add_str (fun t' tk => hQ _ _ .toks (.str ..)) (by rw [sizeLine_eq]; omega)
end

/-- what mu holds stands in the heap: a new object is none of them -/
def MuOk (mu : List Addr) (h : Heap) : Prop := ∀ a ∈ mu, ∃ o, h.get? a = some o
theorem EnvOk.muOk {X : Act} {h : Heap} {ρ : Rho} (hE : EnvOk X h ρ) : MuOk X.mu h := fun a ha => let ⟨_, o, ho, _⟩ := hE.seqs a ha; ⟨o, ho⟩
theorem MuOk.new {mu : List Addr} {h : Heap} (hm : MuOk mu h) : h.objs.size ∉ mu := fun q => let ⟨o, ho⟩ := hm _ q; absurd (Heap.lt_size ho) (Nat.lt_irrefl _)
theorem MuOk.kp {mu : List Addr} {s s' : Shared} (hm : MuOk mu s.heap) (k : Kp s s') : MuOk mu s'.heap := fun a ha => let ⟨o, ho⟩ := hm a ha; ⟨o, k.all _ _ ho⟩

section
variable {X : Act} {n : Nat} {ρ : Rho}

theorem new_list {s : Shared} {vs : List Value} {ds : List D} {o : Obj} (hm : MuOk X.mu s.heap) (hr : RdAll X.mu s.heap vs ds) (ho : o = { cls := .type "list", data := .seq vs.toArray }) :
    Rd X.mu (s.heap.push o) (.ref s.heap.objs.size) (.list ds) := by
  subst ho
  exact .list ⟨_, Heap.get?_push_size _ rfl, rfl, 0, rfl⟩ hm.new (hr.kseq (.of_all fun _ _ e => Heap.get?_push_of_some _ e))

theorem ev_addList {l r : Expr} {pos : Pos} {d1 d2 : List D} (h1 : Ev X n ρ l (.list d1)) (h2 : Ev X n ρ r (.list d2)) (hz : d1.length + d2.length ≤ 1000000) : Ev X n ρ (.BinOp l .Add r pos) (.list (d1 ++ d2)) := by
  intro A s hA hE E Q hQ
  refine wpAny_BinOp (h1 A s hA hE E _ fun v s1 k1 r1 => h2 A s1 hA (hE.keeps k1.all) E _ fun u s2 k2 r2 => ?_)
  have r1' := r1.kseq k2.kseq
  have hE2 := hE.keeps (k1.trans k2).all
  cases r1' with
  | @list a vs _ hl hm hr =>
    cases r2 with
    | @list b ws _ hl2 hm2 hr2 =>
      obtain ⟨⟨cls, dd, data, sl⟩, ho, hc, m, hd⟩ := id hl
      obtain ⟨⟨cls2, dd2, data2, sl2⟩, ho2, hc2, m2, hd2⟩ := id hl2
      simp only at hc hd hc2 hd2
      subst hc hd hc2 hd2
      have e1 := hr.length
      have e2 := hr2.length
      refine concat_meets ⟨_, ho, rfl⟩ ⟨_, ho2, rfl⟩ noFill_list_add seq_list_add PySem.F.slot_list_add PySem.F.entry_list_add (PySem.F.args_list_add_2 _ _) (list_addW a b vs.toArray ws.toArray m m2 dd dd2 sl sl2 (by rw [List.size_toArray, List.size_toArray, sizeLine_eq]; omega)) ⟨ho, ho2, ?_⟩
      exact hQ _ _ ((k1.trans k2).trans .push) (new_list (X := X) hE2.muOk (hr.append hr2) (by simp))

theorem ev_item {value slice : Expr} {pos : Pos} {ds : List D} {k : Int} {d : D} (h1 : Ev X n ρ value (.list ds)) (h2 : Ev X n ρ slice (.int k)) (h0 : 0 ≤ k) (hx : ds[k.toNat]? = some d) (hk : k < 1000000)
    (hs : ∀ o i, subscripted slice false o i = operate [o, i] (getItem o i) := by intro _ _; rfl) : Ev X n ρ (.Subscript value slice pos) d := by
  intro A s hA hE E Q hQ
  refine Subscript_ (h1 A s hA hE E _ fun v s1 k1 r1 => h2 A s1 hA (hE.keeps k1.all) E _ fun u s2 k2 r2 => ?_)
  have r1' := r1.kseq k2.kseq
  cases r2
  cases r1' with
  | @list a vs _ hl hm hr =>
    obtain ⟨v, hv, hrv⟩ := hr.get hx
    exact tail_any hl.typeIs slot_list_getitem.lookup (wpAny_getItem_list hl h0 (by omega) (by simpa using hv) (hQ v s2 (k1.trans k2) hrv)) (hs _ _)

theorem ev_itemTup {value slice : Expr} {pos : Pos} {ds : List D} {k : Int} {d : D} (h1 : Ev X n ρ value (.tuple ds)) (h2 : Ev X n ρ slice (.int k)) (h0 : 0 ≤ k) (hx : ds[k.toNat]? = some d) (hk : k < 1000000)
    (hs : ∀ o i, subscripted slice false o i = operate [o, i] (getItem o i) := by intro _ _; rfl) : Ev X n ρ (.Subscript value slice pos) d := by
  intro A s hA hE E Q hQ
  refine Subscript_ (h1 A s hA hE E _ fun v s1 k1 r1 => h2 A s1 hA (hE.keeps k1.all) E _ fun u s2 k2 r2 => ?_)
  have r1' := r1.kseq k2.kseq
  cases r2
  cases r1' with
  | @tuple a vs _ hl hm hr =>
    obtain ⟨v, hv, hrv⟩ := hr.get hx
    have hlt : k.toNat < vs.length := (List.getElem?_eq_some_iff.mp hv).1
    have hj : seqIndex? k vs.length = some k.toNat := by
      unfold seqIndex?
      have h1 : ¬ k < 0 := by omega
      have h2 : k < (vs.length : Int) := by omega
      simp [h1, h0, h2]
    exact item_tupleT hl (by omega) (by omega) hj hv (hQ v s2 (k1.trans k2) hrv) (hs _ _)

/-- a slice of a list -/
def pick (ds : List D) (lo hi : Option Int) : List D := (ds.drop (kms_lo lo ds.length)).take (kms_hi hi ds.length - kms_lo lo ds.length)
theorem pick_rd {mu : List Addr} {h : Heap} {vs : List Value} {ds : List D} (hr : RdAll mu h vs ds) (lo hi : Option Int) : RdAll mu h (kms_pick vs lo hi) (pick ds lo hi) := by
  unfold kms_pick pick
  rw [hr.length]
  exact (hr.drop _).take _

/-- a slice's end -/
def EvP (X : Act) (n : Nat) (ρ : Rho) (e : Option Expr) (k : Option Int) : Prop := match e, k with
  | none, none => True
  | some e, some k => Ev X n ρ e (.int k)
  | _, _ => False
theorem EvP.run {e : Option Expr} {k : Option Int} (h : EvP X n ρ e k) {A : Around} {s : Shared} {E Q : Value → Shared → Prop} (hA : Ok n A) (hE : EnvOk X s.heap ρ) (hQ : ∀ v s', Kp s s' → IsPart v k → Q v s') :
    wpAny X.C.M A (evalPart e X.env) Q E s := by
  cases e <;> cases k <;> simp only [EvP] at h
  · rw [evalPart_none]; exact wpAny_pure (hQ _ _ (.refl s) .none)
  · rw [evalPart_some]
    exact h A s hA hE E Q fun v s' k r => by cases r; exact hQ _ _ k (.int ..)

theorem ev_slice {value : Expr} {lo hi : Option Expr} {p pos : Pos} {ds : List D} {kl kh : Option Int} (h1 : Ev X n ρ value (.list ds)) (hl : EvP X n ρ lo kl) (hh : EvP X n ρ hi kh) (hz : ds.length ≤ 1000000) :
    Ev X n ρ (.Subscript value (.Slice lo hi none p) pos) (.list (pick ds kl kh)) := by
  intro A s hA hE E Q hQ
  refine Subscript_ (h1 A s hA hE E _ fun v s1 k1 r1 => wpAny_Slice (hl.run hA (hE.keeps k1.all) fun vl s2 k2 p2 => hh.run hA (hE.keeps (k1.trans k2).all) fun vh s3 k3 p3 => ?_))
  rw [evalPart_none]
  refine wpAny_pure ?_
  have r1' := r1.kseq (k2.trans k3).kseq
  have kk := (k1.trans k2).trans k3
  have hE3 := hE.keeps kk.all
  cases r1' with
  | @list a vs _ hl' hm hr =>
    have hl4 : (s3.heap.push { cls := .type "slice", data := .fields #[vl, vh, .none] }).IsList a vs.toArray := hl'.push _
    refine tail_any (T := "list") hl4.typeIs slot_list_getitem.lookup (wpAny_getItem_list_slice hl4 (Heap.IsSliceOf.new ..) p2 p3 .none (by simp) ?_ (by have := hr.length; rw [List.size_toArray, sizeLine_eq]; omega)) rfl
    refine hQ _ _ ((kk.trans .push).trans .push) ?_
    refine new_list (X := X) (s := { s3 with heap := s3.heap.push { cls := .type "slice", data := .fields #[vl, vh, .none] } }) (MuOk.kp hE3.muOk .push) ((pick_rd hr kl kh).kseq (.of_all fun _ _ e => Heap.get?_push_of_some _ e)) ?_
    rw [kms_pick_eq]

theorem ev_sliceTup {value lo : Expr} {p pos : Pos} {ds : List D} {k : Nat} (h1 : Ev X n ρ value (.tuple ds)) (hl : Ev X n ρ lo (.int (k : Int))) (h0 : 1 ≤ k) (hk : k ≤ ds.length) (hz : ds.length ≤ 1000000) :
    Ev X n ρ (.Subscript value (.Slice (some lo) none none p) pos) (.tuple (ds.drop k)) := by
  intro A s hA hE E Q hQ
  refine Subscript_ (h1 A s hA hE E _ fun v s1 k1 r1 => wpAny_Slice ?_)
  rw [evalPart_some]
  refine hl A s1 hA (hE.keeps k1.all) E _ fun vl s3 k2 r2 => ?_
  rw [evalPart_none]
  refine wpAny_pure ?_
  refine wpAny_pure ?_
  have r1' := r1.kseq k2.kseq
  have kk := k1.trans k2
  have hE3 := hE.keeps kk.all
  cases r2
  cases r1' with
  | @tuple a vs _ hl' hm hr =>
    rename_i t
    have hlen := hr.length
    have hl4 : IsTup (s3.heap.push { cls := .type "slice", data := .fields #[.int (k : Int) t, .none, .none] }) a vs.toArray := hl'.keeps fun _ _ e => Heap.get?_push_of_some _ e
    refine tail_any (T := "tuple") hl4.typeIs slot_tuple_getitem.lookup (getItem_tuple_from hl4 (Heap.IsSliceOf.new ..) h0 (by rw [List.size_toArray]; omega) ?_ (by rw [List.size_toArray, sizeLine_eq]; omega)) rfl
    refine hQ _ _ ((kk.trans .push).trans .push) ?_
    have hmu : MuOk X.mu (s3.heap.push { cls := .type "slice", data := .fields #[.int (k : Int) t, .none, .none] }) := MuOk.kp (s' := { s3 with heap := s3.heap.push { cls := .type "slice", data := .fields #[.int (k : Int) t, .none, .none] } }) hE3.muOk .push
    refine .tuple ⟨_, Heap.get?_push_size _ rfl, rfl, 0, rfl⟩ hmu.new ?_
    have : ((vs.drop k)) = (vs.toArray.toList.drop k) := by simp
    rw [← this]
    exact ((hr.drop k).kseq (.of_all fun _ _ e => Heap.get?_push_of_some _ (Heap.get?_push_of_some _ e)))
end
end Mine

namespace Mine

theorem intsAre_of {mu : List Addr} {h : Heap} : ∀ {vs : List Value} {ns : List Int}, RdAll mu h vs (ns.map D.int) → IntsAre vs ns
  | _, [], .nil => .nil
  | _, _ :: _, .cons a r => by cases a; exact .cons _ _ (intsAre_of r)
theorem strsAre_of {mu : List Addr} {h : Heap} : ∀ {vs : List Value} {ys : List Str}, RdAll mu h vs (ys.map D.str) → StrsAre vs ys
  | _, [], .nil => .nil
  | _, _ :: _, .cons a r => by cases a; exact .cons _ _ (strsAre_of r)
theorem rd_strs {mu : List Addr} {h : Heap} : ∀ (l : List (Str × Tok)), RdAll mu h (strValues l) ((l.map (·.1)).map D.str)
  | [] => .nil
  | (x, t) :: r => .cons (.str x t) (rd_strs r)

section
variable {C : Cx} {mu : List Addr} {n : Nat}

theorem RdAll.one {mu : List Addr} {h : Heap} {vs : List Value} {d : D} (r : RdAll mu h vs [d]) : ∃ v, vs = [v] ∧ Rd mu h v d := by
  cases r with
  | cons a r => cases r; exact ⟨_, rfl, a⟩
theorem RdAll.two {mu : List Addr} {h : Heap} {vs : List Value} {d e : D} (r : RdAll mu h vs [d, e]) : ∃ v u, vs = [v, u] ∧ Rd mu h v d ∧ Rd mu h u e := by
  cases r with
  | cons a r => obtain ⟨u, rfl, b⟩ := RdAll.one r; exact ⟨_, _, rfl, a, b⟩

theorem fn_len {ds : List D} (hz : ds.length ≤ 1000000) : FnOk C mu n (.builtin "len") [] [.list ds] [] (.int ds.length) := by
  intro A s vs us hA hC rv ru E Q hQ
  obtain ⟨v, rfl, r⟩ := rv.one
  cases r with
  | @list a vs _ hl hm hr =>
    have e := hr.length
    refine call_len_list hl (by rw [List.size_toArray]; omega) (hQ _ _ .toks ?_)
    rw [List.size_toArray, e]
    exact .int ..
theorem fn_chr {i : Int} (h0 : 0 ≤ i) (h1 : i ≤ 255) : FnOk C mu n (.builtin "chr") [] [.int i] [] (.str ⟨#[i.toNat]⟩) := by
  intro A s vs us hA hC rv ru E Q hQ
  obtain ⟨v, rfl, r⟩ := rv.one
  cases r
  refine PySem.P.chr_of_int ?_ (hQ _ _ .toks (.str ..))
  simp only [Bool.or_eq_false_iff, decide_eq_false_iff_not]
  omega
theorem fn_sum {ns : List Int} : FnOk C mu n (.builtin "sum") [] [.list (ns.map D.int)] [] (.int ns.sum) := by
  intro A s vs us hA hC rv ru E Q hQ
  obtain ⟨v, rfl, r⟩ := rv.one
  cases r with
  | @list a vs _ hl hm hr =>
    have hi := intsAre_of hr
    obtain ⟨xs, hx⟩ := hi.allInts.items
    have hl' : s.heap.IsList a (intItems xs) := hx ▸ hl
    refine sum_intListG hA.handled hl' fun h' tk t' hk => ?_
    have e1 : ns = xs.toList.map (·.1) := by
      rw [← nums_intItems, ← hx]
      exact (show numsOf vs.toArray.toList = ns from hi.numsOf).symm
    have e2 : preSum (numAt xs) xs.size = ns.sum := by
      rw [preSum_eq, List.take_of_length_le (by simp), e1]
    rw [e2]
    exact hQ _ _ (.of hk) (.int ..)
theorem fn_max2 {a b : Int} : FnOk C mu n (.builtin "max") [] [.int a, .int b] [] (.int (max a b)) := by
  intro A s vs us hA hC rv ru E Q hQ
  obtain ⟨v, u, rfl, r, r2⟩ := rv.two
  cases r; cases r2
  refine max_two_ints hA.handled fun h' tk hk => hQ _ _ (.of hk) ?_
  by_cases c : b > a
  · rw [if_pos c, show max a b = b by omega]; exact .int ..
  · rw [if_neg c, show max a b = a by omega]; exact .int ..
theorem fn_maxL {ns : List Int} {m : Int} (hm : m ∈ ns) (hle : ∀ a ∈ ns, a ≤ m) : FnOk C mu n (.builtin "max") [] [.list (ns.map D.int)] [] (.int m) := by
  intro A s vs us hA hC rv ru E Q hQ
  obtain ⟨v, rfl, r⟩ := rv.one
  cases r with
  | @list a vs _ hl hmu hr =>
    have hi := intsAre_of hr
    obtain ⟨xs, hx⟩ := hi.allInts.items
    have hl' : s.heap.IsList a (intItems xs) := hx ▸ hl
    have e1 : ns = xs.toList.map (·.1) := by
      rw [← nums_intItems, ← hx]
      exact (show numsOf vs.toArray.toList = ns from hi.numsOf).symm
    have hsz : 0 < xs.size := by
      have := List.length_pos_of_mem hm
      rw [e1] at this; simpa using this
    refine max_intList hA.handled hl' hsz fun v h' tk hv hk => ?_
    obtain ⟨t, rfl⟩ := intItems_at hv
    obtain ⟨h1, h2⟩ := argBest_gt (numAt xs) (xs.size - 1)
    refine hQ _ _ (.of hk) ?_
    have hmem : numAt xs (argBest (fun i j => decide (numAt xs i > numAt xs j)) (xs.size - 1)) ∈ ns := by
      rw [e1, numAt_eq]; exact getD_mem (by rw [List.length_map, Array.length_toList]; omega)
    have hge : m ≤ numAt xs (argBest (fun i j => decide (numAt xs i > numAt xs j)) (xs.size - 1)) := by
      rw [e1] at hm
      obtain ⟨j, hj, hj'⟩ := mem_getD hm
      rw [List.length_map, Array.length_toList] at hj
      rw [← hj', ← numAt_eq]; exact h2 j (by omega)
    have : numAt xs (argBest (fun i j => decide (numAt xs i > numAt xs j)) (xs.size - 1)) = m := Int.le_antisymm (hle _ hmem) hge
    rw [this]
    exact .int ..
theorem fn_bytes {ns : List Int} (hr : ∀ n ∈ ns, 0 ≤ n ∧ n < 256) (hz : ns.length ≤ 1000000) : FnOk C mu n (.type "bytes") [] [.list (ns.map D.int)] [] (.bytes (byteArr ns)) := by
  intro A s vs us hA hC rv ru E Q hQ
  obtain ⟨v, rfl, r⟩ := rv.one
  cases r with
  | @list a vs _ hl hm hrd =>
    have hi := intsAre_of hrd
    refine call_bytes_ints hl hi hr (by rw [hi.length, sizeLine_eq]; omega) hA.handled fun h' t k hk => hQ _ _ (.of hk) (.bytes ..)
theorem fn_bytesM {a : Addr} {ns : List Int} (hr : ∀ n ∈ ns, 0 ≤ n ∧ n < 256) (hz : ns.length ≤ 1000000) : FnOk C mu n (.type "bytes") [] [.mlist a (ns.map D.int)] [] (.bytes (byteArr ns)) := by
  intro A s vs us hA hC rv ru E Q hQ
  obtain ⟨v, rfl, r⟩ := rv.one
  cases r with
  | @mlist _ vs _ hl hm hrd =>
    have hi := intsAre_of hrd
    refine call_bytes_ints hl.isList hi hr (by rw [hi.length, sizeLine_eq]; omega) hA.handled fun h' t k hk => hQ _ _ (.of hk) (.bytes ..)
theorem fn_typeBytes {b : Array UInt8} : FnOk C mu n (.type "type") [] [.bytes b] [] (.ty "bytes") := by
  intro A s vs us hA hC rv ru E Q hQ
  obtain ⟨v, rfl, r⟩ := rv.one
  cases r
  exact call_type_of (PySem.W.typeIs_bytes _ _ _) (by decide +kernel) (hQ _ _ (.refl s) (.ty _))
theorem fn_typeBool {b : Bool} : FnOk C mu n (.type "type") [] [.bool b] [] (.ty "bool") := by
  intro A s vs us hA hC rv ru E Q hQ
  obtain ⟨v, rfl, r⟩ := rv.one
  cases r
  exact call_type_of (PyProof.Rows.typeIs_bool _ _) (by decide +kernel) (hQ _ _ (.refl s) (.ty _))
end

section
variable {X : Act} {n : Nat} {ρ : Rho}

theorem tr_bool {e : Expr} {b : Bool} (h : Ev X n ρ e (.bool b)) (he : ∀ whole, isTrue e X.env whole = (do let v ← whole; standAt e.pos; holding [v] (truthy v)) := by intro _; rfl) : Tr X n ρ e b := by
  intro A s E Q hA hE hQ
  refine isTrue_plain (h A s hA hE E _ fun v s' k r => ?_) (he _)
  cases r
  exact wpAny_truthy_bool (hQ s' k)
theorem tr_tuple {e : Expr} {ds : List D} (h : Ev X n ρ e (.tuple ds)) (hz : ds.length ≤ 1000000) (he : ∀ whole, isTrue e X.env whole = (do let v ← whole; standAt e.pos; holding [v] (truthy v)) := by intro _; rfl) : Tr X n ρ e (!ds.isEmpty) := by
  intro A s E Q hA hE hQ
  refine isTrue_plain (h A s hA hE E _ fun v s' k r => ?_) (he _)
  cases r with
  | @tuple a vs _ hl hm hr =>
    have e := hr.length
    refine truthy_tuple hl (by rw [List.size_toArray]; omega) ?_
    have : (!vs.toArray.isEmpty) = !ds.isEmpty := by
      cases vs <;> cases ds <;> simp_all
    rw [this]
    exact hQ _ (k.trans .toks)

def TrOr (X : Act) (n : Nat) (ρ : Rho) (es : List Expr) (b : Bool) : Prop :=
  ∀ A s E (Q : Bool → Shared → Prop), Ok n A → EnvOk X s.heap ρ → (∀ s', Kp s s' → Q b s') → wpAny X.C.M A (allTrue .Or es X.env) Q E s
theorem TrOr.stop {e : Expr} {es : List Expr} (h : Tr X n ρ e true) : TrOr X n ρ (e :: es) true := fun A s E Q hA hE hQ =>
  wpAny_allTrue_Or_cons (h A s E _ hA hE fun s' k => by simpa using hQ s' k)
theorem TrOr.skip {e : Expr} {es : List Expr} {b : Bool} (h : Tr X n ρ e false) (h2 : TrOr X n ρ es b) : TrOr X n ρ (e :: es) b := fun A s E Q hA hE hQ =>
  wpAny_allTrue_Or_cons (h A s E _ hA hE fun s' k => by simpa using h2 A s' E Q hA (hE.keeps k.all) fun s'' k' => hQ s'' (k.trans k'))
theorem tr_or {es : List Expr} {pos : Pos} {b : Bool} (h : TrOr X n ρ es b) : Tr X n ρ (.BoolOp .Or es pos) b := fun A s E Q hA hE hQ => wpAny_isTrue_BoolOp (h A s E Q hA hE hQ)

theorem ev_and2 {a b : Expr} {pos : Pos} {d : D} (h1 : Ev X n ρ a (.bool true)) (h2 : Ev X n ρ b d) : Ev X n ρ (.BoolOp .And [a, b] pos) d := by
  intro A s hA hE E Q hQ
  show wpAny _ A (eval a X.env >>= fun v => standAt pos >>= fun _ => holding [v] (truthy v) >>= fun t => match BoolOp.And, t with | .And, false | .Or, true => pure v | _, _ => eval b X.env) Q E s
  refine wpAny_bind (h1 A s hA hE E _ fun v s' k r => ?_)
  cases r
  refine wpAny_bind (wpAny_standAt (wpAny_bind (wpAny_holding (wpAny_truthy_bool ?_))))
  exact h2 A s' hA (hE.keeps k.all) E Q fun v s'' k' r' => hQ v s'' (k.trans k') r'

theorem ev_join {o e : Expr} {apos pos : Pos} {pl : Sem Bool} {sep : Str} {ys : List Str} (h1 : Ev X n ρ o (.str sep)) (h2 : Ev X n ρ e (.list (ys.map D.str))) (hz : (ys.map (·.length)).sum + ys.length * sep.length ≤ 1000000)
    (he : eval (.Call (.Attribute o "join" apos) [e] [] pos) X.env = (do
      let ov ← eval o X.env
      standAt apos.atName
      let (f, first) ← holding [ov] (getMethod ov "join" pl)
      callWith pos f first (backTo pos (starEach [e] X.env)) []) := by rfl)
    (hst : starEach [e] X.env = [(false, eval e X.env)] := by rfl) : Ev X n ρ (.Call (.Attribute o "join" apos) [e] [] pos) (.str (Txt.join sep ys)) := by
  intro A s hA hE E Q hQ
  refine MethodCall_ (pl := pl) (h1 A s hA hE E _ fun v s1 k1 r1 => ?_) he
  cases r1
  refine GM.join ?_
  dsimp only
  rw [hst]
  refine callWith_builtin rfl (evalArgs_plain (spliced_cons (h2 A s1 hA (hE.keeps k1.all) E _ fun u s2 k2 r2 => spliced_nil ?_)))
  cases r2 with
  | @list a vs _ hl hm hr =>
    exact join_list hl (by simpa using strsAre_of hr) (by omega) fun t' k => hQ _ _ ((k1.trans k2).trans .toks) (.str ..)

theorem ev_split {o e : Expr} {apos pos : Pos} {pl : Sem Bool} {x y : Str} (hmu : X.mu = []) (h1 : Ev X n ρ o (.str x)) (h2 : Ev X n ρ e (.str y)) (hy : (y.length == 0) = false) (hz : x.length ≤ 1000000)
    (he : eval (.Call (.Attribute o "split" apos) [e] [] pos) X.env = (do
      let ov ← eval o X.env
      standAt apos.atName
      let (f, first) ← holding [ov] (getMethod ov "split" pl)
      callWith pos f first (backTo pos (starEach [e] X.env)) []) := by rfl)
    (hst : starEach [e] X.env = [(false, eval e X.env)] := by rfl) : Ev X n ρ (.Call (.Attribute o "split" apos) [e] [] pos) (.list ((Txt.split x y).map D.str)) := by
  intro A s hA hE E Q hQ
  refine MethodCall_ (pl := pl) (h1 A s hA hE E _ fun v s1 k1 r1 => ?_) he
  cases r1
  refine GM.split ?_
  dsimp only
  rw [hst]
  refine callWith_builtin rfl (evalArgs_plain (spliced_cons (h2 A s1 hA (hE.keeps k1.all) E _ fun u s2 k2 r2 => spliced_nil ?_)))
  cases r2
  refine SCH.split1 (P := fun h' => ∀ b o, s2.heap.get? b = some o → h'.get? b = some o) (fun h' o k b ob e => Heap.get?_push_of_some _ (k b ob e)) (fun _ _ e => e) hy (fun L l h' k hl hk hlist => ?_) (by rw [sizeLine_eq]; omega) ?_
  · refine hQ _ _ ((k1.trans k2).trans (.of hk)) (.list hlist (by rw [hmu]; simp) ?_)
    rw [← hl]
    exact rd_strs l
  · rw [length_partsBetween, sizeLine_eq]
    have := StrLaws.occ_length_le x y 0 x.length (x.length + 1)
    omega

theorem ev_itemStr {value slice : Expr} {pos : Pos} {x : Str} {k : Int} {c : Nat} (h1 : Ev X n ρ value (.str x)) (h2 : Ev X n ρ slice (.int k)) (h0 : 0 ≤ k) (hk : k < 1000000) (hx : x.cps[k.toNat]? = some c)
    (hs : ∀ o i, subscripted slice false o i = operate [o, i] (getItem o i) := by intro _ _; rfl) : Ev X n ρ (.Subscript value slice pos) (.str ⟨#[c]⟩) := by
  intro A s hA hE E Q hQ
  refine Subscript_ (h1 A s hA hE E _ fun v s1 k1 r1 => h2 A s1 hA (hE.keeps k1.all) E _ fun u s2 k2 r2 => ?_)
  cases r2; cases r1
  refine tail_any (T := "str") (typeIs_str _ _ _) slot_str_getitem.lookup (PyProof.Rows.getItem_str ?_ ?_ (hQ _ _ ((k1.trans k2).trans .toks) (.str ..))) (hs _ _)
  · simp only [Bool.or_eq_false_iff, decide_eq_false_iff_not]; omega
  · have hlt : k.toNat < x.cps.size := (Array.getElem?_eq_some_iff.mp hx).1
    have : seqIndex? k x.length = some k.toNat := by
      unfold seqIndex?
      have h1 : ¬ k < 0 := by omega
      have h2 : k < (x.length : Int) := by simp only [Str.length]; omega
      simp [h1, h0, h2]
    rw [this]; exact hx

theorem ev_itemBytes {value slice : Expr} {pos : Pos} {b : Array UInt8} {k : Int} (h1 : Ev X n ρ value (.bytes b)) (h2 : Ev X n ρ slice (.int k)) (h0 : 0 ≤ k) (hk : k < b.size) (hz : b.size ≤ 1000000)
    (hs : ∀ o i, subscripted slice false o i = operate [o, i] (getItem o i) := by intro _ _; rfl) : Ev X n ρ (.Subscript value slice pos) (.int ((b.toList.getD k.toNat 0).toNat : Int)) := by
  intro A s hA hE E Q hQ
  refine Subscript_ (h1 A s hA hE E _ fun v s1 k1 r1 => h2 A s1 hA (hE.keeps k1.all) E _ fun u s2 k2 r2 => ?_)
  cases r2; cases r1
  refine tail_any (T := "bytes") (PySem.W.typeIs_bytes _ _ _) FB.slot_bytes_getitem.lookup ?_ (hs _ _)
  have hb : b = b.toList.toArray := by simp
  rw [hb]
  exact PySem.W.getItem_bytes (by simp; omega) h0 (by simpa using hk) (hQ _ _ ((k1.trans k2).trans .toks) (.int ..))

theorem ev_sliceStr {value lo : Expr} {p pos : Pos} {x : Str} {k : Int} (h1 : Ev X n ρ value (.str x)) (hl : Ev X n ρ lo (.int k)) (hz : x.length ≤ 1000000) :
    Ev X n ρ (.Subscript value (.Slice (some lo) none none p) pos) (.str (Txt.slice x (some k) none)) := by
  intro A s hA hE E Q hQ
  refine Subscript_ (h1 A s hA hE E _ fun v s1 k1 r1 => wpAny_Slice ?_)
  rw [evalPart_some]
  refine hl A s1 hA (hE.keeps k1.all) E _ fun vl s3 k2 r2 => ?_
  rw [evalPart_none]
  refine wpAny_pure ?_
  refine wpAny_pure ?_
  cases r2; cases r1
  rename_i t u
  have := SBH.sliceItem_sn (prog := X.C.prog) (w := X.C.w) (A := A) (E := E) (s := s3) (x := x) (t := u) (i := k) (ui := t) (Q := Q) (P := fun h' => ∀ b o, s3.heap.get? b = some o → h'.get? b = some o) (fun h' o k b ob e => Heap.get?_push_of_some _ (k b ob e)) (fun _ _ e => e)
    (fun h' t' k' hk => hQ _ _ ((k1.trans k2).trans (.of hk)) (.str ..)) (by rw [sizeLine_eq]; omega)
  obtain ⟨T, id, hl, hT, hg⟩ := this
  exact tail_any hT hl hg rfl
end
end Mine

namespace Mine

theorem canLay_strs : ∀ {ys : List Str}, (∀ y ∈ ys, PyData.strOk y = true) → PyData.canLayAll0 (ys.map PyData.str) = true
  | [], _ => rfl
  | y :: r, h => by simp [PyData.canLayAll0, PyData.canLay0, h y (.head _), canLay_strs fun z hz => h z (.tail _ hz)]
theorem depth_strs : ∀ ys : List Str, PyData.depthAll (ys.map PyData.str) = 0
  | [] => rfl
  | _ :: r => by simp [PyData.depthAll, PyData.depth, depth_strs r]
theorem carried_strs {mu : List Addr} {h : Heap} : ∀ {vs : List Value} {ys : List Str}, RdAll mu h vs (ys.map D.str) → CarriedAll vs (ys.map PyData.str)
  | _, [], .nil => .nil
  | _, _ :: _, .cons a r => by cases a; exact .cons (.str _ _) (carried_strs r)

theorem op_ne_nil {C : Cx} {mu : List Addr} {n : Nat} {ys : List Str} (hy : ∀ y ∈ ys, PyData.strOk y = true) : Op2 C mu n (compareOp .NotEq) (.list (ys.map D.str)) (.list []) (.bool (!ys.isEmpty)) := by
  intro A s v u hA hC r1 r2 E Q hQ
  cases r1 with
  | @list a vs _ hl hm hr =>
    cases r2 with
    | @list b ws _ hl2 hm2 hr2 =>
      cases hr2
      have hu : A.units + 64 < cLine := by have := hA.units; omega
      refine ne_dataH (reads_newData hl (carried_strs hr)) (reads_newData (ds := []) hl2 .nil) (by simp [SeqAt.shaped, PyData.canLay0, PyData.depth, canLay_strs hy, depth_strs]) (by rfl) hu ?_
      have : (!PyData.eqv (.list (ys.map PyData.str)) (.list [])) = !ys.isEmpty := by
        cases ys <;> simp [PyData.eqv, PyData.eqvAll]
      rw [this]
      exact hQ _ _ (.refl s) (.bool _)

section
variable {X : Act} {n : Nat} {ρ : Rho}

theorem it_range {args : List Expr} {fp pos : Pos} {a b c : Int} (hg : Gl X "range" (.type "range")) (N : Nat) (hsmall : Builtin.Range.small a b c = true) (hsz : Builtin.Range.rangeSize a b c = (N : Int))
    (hmk : ∀ A s E (Q : Value → Shared → Prop), Ok n A → EnvOk X s.heap ρ → (∀ r s' t u v, Kp s s' → IsRange s'.heap r a b c t u v → Q (.ref r) s') → wpAny X.C.M A (eval (.Call (.Name "range" fp) args [] pos) X.env) Q E s) :
    It X n ρ (.Call (.Name "range" fp) args [] pos) ((List.range N).map fun (i : Nat) => D.int (a + (i : Int) * c)) := by
  intro A s E Q hA hE hQ
  refine hmk A s E _ hA hE fun r s1 t u v k1 hr => ?_
  have hE1 := hE.keeps k1.all
  refine wpAny_pyIter_range hr hsmall (hQ _ _ (k1.trans .push) ?_)
  have W := Walks.range (prog := X.C.prog) (w := X.C.w) hA.handled s1.heap.objs.size a c N
  have hlen : N = ((List.range N).map fun (i : Nat) => D.int (a + (i : Int) * c)).length := by simp
  have W' : Walks X.C.prog X.C.w A s1.heap.objs.size [s1.heap.objs.size] [s1.heap.objs.size] ((List.range N).map fun (i : Nat) => D.int (a + (i : Int) * c)).length (fun i v => i < N ∧ ∃ t, v = .int (a + i * c) t) (fun i h => IsRangeIter h s1.heap.objs.size (a + (i : Nat) * c) ((N : Int) - (i : Nat)) c) := hlen ▸ W.bound
  refine ⟨_, _, _, _, _, rfl, W', ?_, ?_, ?_, ?_, ?_⟩
  · show IsRangeIter _ _ _ _ _
    rw [hsz]; simpa using Heap.get?_push_size _ rfl
  · intro b hb
    rw [List.mem_singleton.mp hb]
    exact ⟨by rw [Heap.size_push]; exact Nat.lt_succ_self _, fun q => absurd (own_lt hE1 _ q) (Nat.lt_irrefl _)⟩
  · intro b hb
    rw [List.mem_singleton.mp hb]
    cases q : s.heap.get? s1.heap.objs.size with
    | none => rfl
    | some o => exact absurd (Heap.lt_size (k1.all _ _ q)) (Nat.lt_irrefl _)
  · intro i h' st b hb o2 its n2 e2 d2
    rw [List.mem_singleton.mp hb] at e2
    have : h'.get? s1.heap.objs.size = _ := st
    rw [this] at e2; cases e2; cases d2
  · rintro i v ⟨hi, t, rfl⟩
    exact ⟨.int (a + i * c), by simp [hi], fun _ _ => .int ..⟩

theorem it_range1 {e : Expr} {fp pos : Pos} (N : Nat) (hg : Gl X "range" (.type "range")) (he : Ev X n ρ e (.int (N : Int))) (hz : N ≤ 1000000) (hst : starEach [e] X.env = [(false, eval e X.env)] := by rfl) :
    It X n ρ (.Call (.Name "range" fp) [e] [] pos) ((List.range N).map fun (i : Nat) => D.int (i : Int)) := by
  have h := it_range (X := X) (n := n) (ρ := ρ) (args := [e]) (fp := fp) (pos := pos) (a := 0) (b := (N : Int)) (c := 1) hg N (small_one (by decide) (by decide) (by omega) (by omega)) (by rw [rangeSize_one]; split <;> omega) ?_
  · simpa using h
  · intro A s E Q hA hE hQ
    refine wpAny_Call_NameR (hg.run hE ?_)
    rw [hst]
    refine PySem.callWith_type rfl (evalArgs_plain (spliced_cons (he A s hA hE E _ fun v s1 k1 r1 => spliced_nil ?_)))
    cases r1
    exact call_range_1 (hQ _ _ _ _ _ (k1.trans (.of fun _ _ e => Heap.get?_push_of_some _ e)) (IsRange.new ..))

theorem it_range3 {e1 e2 e3 : Expr} {fp pos : Pos} {b c : Int} (N : Nat) (hg : Gl X "range" (.type "range")) (h1 : Ev X n ρ e1 (.int 0)) (h2 : Ev X n ρ e2 (.int b)) (h3 : Ev X n ρ e3 (.int c)) (hc : 1 ≤ c) (hc2 : c ≤ 1000) (hb0 : 0 ≤ b) (hb : b ≤ 1000000)
    (hsz : Builtin.Range.rangeSize 0 b c = (N : Int)) (hN : N ≤ 1000000) (hst : starEach [e1, e2, e3] X.env = [(false, eval e1 X.env), (false, eval e2 X.env), (false, eval e3 X.env)] := by rfl) :
    It X n ρ (.Call (.Name "range" fp) [e1, e2, e3] [] pos) ((List.range N).map fun (i : Nat) => D.int ((i : Int) * c)) := by
  have hsm : Builtin.Range.small 0 b c = true := by
    unfold Builtin.Range.small
    rw [hsz]
    simp only [Builtin.Range.rangeFitsLong, Bool.and_eq_true, Bool.or_eq_true, decide_eq_true_eq, beq_iff_eq]
    have hp : c > 0 := by omega
    simp only [hp, if_true, Bool.and_eq_true, decide_eq_true_eq]
    refine ⟨by omega, .inr (by omega)⟩
  have h := it_range (X := X) (n := n) (ρ := ρ) (args := [e1, e2, e3]) (fp := fp) (pos := pos) (a := 0) (b := b) (c := c) hg N hsm hsz ?_
  · simpa using h
  · intro A s E Q hA hE hQ
    refine wpAny_Call_NameR (hg.run hE ?_)
    rw [hst]
    refine PySem.callWith_type rfl (evalArgs_plain (spliced_cons (h1 A s hA hE E _ fun v s1 k1 r1 => spliced_cons (h2 A s1 hA (hE.keeps k1.all) E _ fun u s2 k2 r2 => spliced_cons (h3 A s2 hA (hE.keeps (k1.trans k2).all) E _ fun x s3 k3 r3 => spliced_nil ?_)))))
    cases r1; cases r2; cases r3
    exact call_range_3 (by omega) (hQ _ _ _ _ _ (((k1.trans k2).trans k3).trans .push) (IsRange.new ..)) (.inl (PyProof.noPylong_small (by omega)))

/-- three names are given a list's three items -/
theorem ex_unpack3 {x y z : Str} {px py pz tp pos : Pos} {k : Nat} {e : Expr} {d1 d2 d3 : D} (h : Ev X n ρ e (.list [d1, d2, d3]))
    (hx : X.env.kindOf x = some .local) (hy : X.env.kindOf y = some .local) (hz : X.env.kindOf z = some .local)
    (hs : swapsWithSole [.Tuple [.Name x px, .Name y py, .Name z pz] k tp] e pos.line X.env = pure false := by rfl)
    (hw : swappedStores [.Tuple [.Name x px, .Name y py, .Name z pz] k tp] e X.env = pure none := by rfl) :
    Ex1 X n ρ (.Assign [.Tuple [.Name x px, .Name y py, .Name z pz] k tp] e pos) (.next ((z, d3) :: (y, d2) :: (x, d1) :: ρ)) := by
  intro A s E Q hA hE hQ
  refine Assign_Tuple (h A s hA hE E _ fun v s1 k1 r1 => ?_) hs hw
  have hE1 := hE.keeps k1.all
  cases r1 with
  | @list a vs _ hl hm hr =>
    cases hr with
    | @cons v1 vs1 _ _ r1 hr =>
    cases hr with
    | @cons v2 vs2 _ _ r2 hr =>
    cases hr with
    | @cons v3 vs3 _ _ r3 hr =>
    cases hr
    rw [show assign (.Tuple [.Name x px, .Name y py, .Name z pz] k tp) X.env (.ref a) = (do standAt tp; unpack (.ref a) (assignEach [.Name x px, .Name y py, .Name z pz] X.env)) from rfl]
    refine wpAny_bind (wpAny_standAt ?_)
    unfold unpack
    refine wpAny_bind (wpAny_holding ?_)
    refine kun_itemsOf (items := [v1, v2, v3].toArray) hA.handled hl fun h' he => ?_
    have hk' : ∀ b o, s1.heap.get? b = some o → h'.get? b = some o := fun b o e => he b o (Nat.ne_of_lt (Heap.lt_size e)) e
    have hE2 : EnvOk X h' ρ := hE1.keeps hk'
    have kq := KSeq.of_all hk'
    refine assignInOrder_cons (wpAny_assign_Name (store_name (s := { s1 with heap := h' }) hE2 (r1.kseq kq) (.inl hx) fun s3 kb3 hE3 _ kq3 => ?_))
    refine assignInOrder_cons (wpAny_assign_Name (store_name hE3 ((r2.kseq kq).kseq kq3) (.inl hy) fun s4 kb4 hE4 _ kq4 => ?_))
    refine assignInOrder_cons (wpAny_assign_Name (store_name hE4 (((r3.kseq kq).kseq kq3).kseq kq4) (.inl hz) fun s5 kb5 hE5 _ kq5 => assignInOrder_nil ?_))
    exact hQ _ _ ((((KpB.of_kp (k1.trans (.ofH hk'))).trans kb3).trans kb4).trans kb5) ⟨rfl, hE5⟩

theorem ev_callKw {f kn : Str} {fp pos kp : Pos} {g : Addr} {e ke : Expr} {d1 d2 d : D} (hg : Gl X f (.ref g)) (hc : Callee X.C (.ref g)) (h1 : Ev X n ρ e d1) (h2 : Ev X n ρ ke d2)
    (hop : FnOk X.C X.mu n (.ref g) [kn] [d1] [d2] d) (he : starEach [e] X.env = [(false, eval e X.env)] := by rfl) : Ev X n ρ (.Call (.Name f fp) [e] [⟨some kn, ke, kp⟩] pos) d := by
  intro A s hA hE E Q hQ
  refine wpAny_Call_Name_kw (hg.run hE ?_)
  rcases hc with ⟨id, q⟩ | ⟨T, q⟩ | ⟨g', o, fd, q, hg', hd⟩
  · cases q
  · cases q
  cases q
  rw [he]
  refine callWith_function_kw (o := o) (fd := fd) (evalArgs_kw rfl (spliced_cons (h1 A s hA hE E _ fun v s1 k1 r1 => spliced_nil ?_)))
  refine wpAny_evalAll_cons (wpAny_bind (h2 A s1 hA (hE.keeps k1.all) E _ fun u s2 k2 r2 => wpAny_bind (wpAny_standAt (wpAny_pure (wpAny_evalAll_nil ⟨⟨(hE.keeps (k1.trans k2).all).at_ _ _ hg', hd⟩, ?_⟩)))))
  exact hop A s2 [v] [u] hA (hE.keeps (k1.trans k2).all).at_ (.cons (r1.kseq k2.kseq) .nil) (.cons r2 .nil) E Q fun v' s' k r => hQ v' s' ((k1.trans k2).trans k) r

/-- a new list that the rest may change -/
theorem ex_newM {x : Str} {px lp pos : Pos} {rest : List Stmt} {d : D} (hmu : X.mu = []) (hx : X.env.kindOf x = some .local) (hd : NoM d)
    (hrest : ∀ a, Ex ⟨X.C, X.env, X.oc, [a]⟩ n ((x, .mlist a []) :: ρ) rest (.ret d)) (hs : swapsWith (.List [] lp) (some (.Name x px)) pos.line X.env = pure false := by rfl) :
    Ex X n ρ (.Assign [.Name x px] (.List [] lp) pos :: rest) (.ret d) := by
  intro A s E Q hA hE hQ
  refine wpAny_execs_cons (wpAny_Assign_Name (List_ (spliced_nil (wpAny_newObj_type ?_))) hs)
  have hfr : s.heap.get? s.heap.objs.size = none := new_get (Nat.le_refl _)
  have hk : ∀ b o, s.heap.get? b = some o → (s.heap.push { cls := .type "list", data := .seq ([] : List Value).toArray }).get? b = some o := fun _ _ e => Heap.get?_push_of_some _ e
  have hE1 := hE.keeps hk
  have hl : (s.heap.push { cls := .type "list", data := .seq ([] : List Value).toArray }).IsList s.heap.objs.size ([] : List Value).toArray := ⟨_, Heap.get?_push_size _ rfl, rfl, 0, rfl⟩
  have hE2 : EnvOk ⟨X.C, X.env, X.oc, [s.heap.objs.size]⟩ (s.heap.push { cls := .type "list", data := .seq ([] : List Value).toArray }) ρ := by
    refine { at_ := hE1.at_, fresh := fun a ha => ?_, ns := hE1.ns, cells := hE1.cells, oc := hE1.oc, nodup := hE1.nodup, seqs := fun a ha => ?_, kind := hE1.kind, glob := hE1.glob, blt := hE1.blt, vals := fun y e hy => ?_ }
    · rcases List.mem_cons.mp ha with rfl | ha
      · exact hE.fresh _ (.head _)
      rcases List.mem_append.mp ha with ha | ha
      · exact hE.fresh _ (.tail _ (List.mem_append_left _ ha))
      · rw [List.mem_singleton.mp ha]
        cases q : X.C.base.get? s.heap.objs.size with
        | none => rfl
        | some o => have := hE.at_ _ _ q; rw [hfr] at this; cases this
    · rw [List.mem_singleton.mp ha]; exact ⟨_, hl⟩
    · obtain ⟨v, hb, hr⟩ := hE.vals y e hy
      rw [hmu] at hr
      exact ⟨v, hb.keeps hk, (hr.fresh hfr).kseq (.of_all hk)⟩
  refine store_name (X := ⟨X.C, X.env, X.oc, [s.heap.objs.size]⟩) (s := { s with heap := s.heap.push { cls := .type "list", data := .seq ([] : List Value).toArray } }) hE2 (.mlist (vs := []) ⟨0, Heap.get?_push_size _ rfl⟩ (List.mem_singleton.mpr rfl) .nil) (.inl hx) fun s' kb hE' _ _ => ?_
  refine hrest _ A s' E Q hA hE' fun f s'' kb' p => ?_
  obtain ⟨v, rfl, hr⟩ := p
  refine hQ _ _ ?_ ⟨v, rfl, by rw [hmu]; exact Rd.drop hd hr⟩
  obtain ⟨h1, t1, rfl, kk1⟩ := kb
  obtain ⟨h2, t2, rfl, kk2⟩ := kb'
  refine ⟨h2, t2, rfl, fun b o hb e => ?_⟩
  have hno : b ∉ (⟨X.C, X.env, X.oc, [s.heap.objs.size]⟩ : Act).own := fun ho => by
    rcases List.mem_cons.mp ho with rfl | ho
    · exact hb (.head _)
    rcases List.mem_append.mp ho with ho | ho
    · exact hb (.tail _ (List.mem_append_left _ ho))
    · rw [List.mem_singleton.mp ho, hfr] at e; cases e
  exact kk2 b o hno (kk1 b o hno (hk b o e))

theorem ex_append {x : Str} {xp apos pos spos : Pos} {pl : Sem Bool} {a : Addr} {ds : List D} {e : Expr} {d : D} (hx : ρ.lookup x = some (.mlist a ds)) (h : Ev X n ρ e d) (hd : NoM d) (hds : NoMs ds) (hρ : ∀ y e, y ≠ x → ρ.lookup y = some e → NoM e)
    (hz : ds.length ≤ 1000000) (hdb : (x == ("__debug__" : Str)) = false := by decide +kernel)
    (he : eval (.Call (.Attribute (.Name x xp) "append" apos) [e] [] pos) X.env = (do
      let ov ← eval (.Name x xp) X.env
      standAt apos.atName
      let (f, first) ← holding [ov] (getMethod ov "append" pl)
      callWith pos f first (backTo pos (starEach [e] X.env)) []) := by rfl)
    (hst : starEach [e] X.env = [(false, eval e X.env)] := by rfl) (hi : interactive X.env = false := by rfl)
    (hs : swapsWith (.Call (.Attribute (.Name x xp) "append" apos) [e] [] pos) none spos.line X.env = pure false := by rfl) :
    Ex1 X n ρ (.Expr (.Call (.Attribute (.Name x xp) "append" apos) [e] [] pos) spos) (.next ((x, .mlist a (ds ++ [d])) :: ρ)) := by
  intro A s E Q hA hE hQ
  refine wpAny_Expr (MethodCall_ (pl := pl) (Ev.name hx hdb A s hA hE E _ fun v s1 k1 r1 => ?_) he) hi hs
  have hE1 := hE.keeps k1.all
  cases r1 with
  | @mlist _ vs _ hl hm hr =>
    obtain ⟨m, ho⟩ := id hl
    refine getMethod_list_append ho rfl rfl ?_
    dsimp only
    rw [hst]
    refine callWith_builtin rfl (evalArgs_plain (spliced_cons (h A s1 hA hE1 E _ fun u s2 k2 r2 => spliced_nil ?_)))
    have hE2 := hE1.keeps k2.all
    have hpl2 : s2.heap.PlainList a vs.toArray := hl.at fun o e => k2.all _ o e
    have hl2 := hpl2.isList
    have hlen := hr.length
    refine wpAny_list_append_plain (hsz := by rw [List.size_toArray, sizeLine_eq]; omega) hpl2 fun h' hpl' hs' => ?_
    have hl' := hpl'.isList
    have km : KSeqM X.mu s2.heap h' := fun b o i n hb e d => (hs'.2 b (fun q => hb (q ▸ hm))).trans e
    dsimp only
    refine hQ _ _ ((KpB.of_kp (k1.trans k2)).trans ⟨h', s2.toks, rfl, fun b o hb e => (hs'.2 b (fun q => hb (q ▸ .tail _ (List.mem_append_right _ hm)))).trans e⟩) ⟨rfl, ?_⟩
    have hb2 : Bnd s2.heap X.env x (.ref a) := by
      obtain ⟨v', hb', hr'⟩ := hE2.vals x _ hx
      cases hr' with
      | mlist _ _ _ => exact hb'
    have hE3 : EnvOk X h' [] := (hE2.sub (ρ' := []) (fun _ _ q => by simp at q)).app (fun _ _ q => by simp at q) hm hs' hl'
    refine { hE3 with vals := fun y e hy => ?_ }
    by_cases hyx : y = x
    · subst hyx
      simp at hy; subst hy
      refine ⟨.ref a, ?_, ?_⟩
      · rcases hb2 with ⟨q, m2, hn2, hm2⟩ | ⟨q, c, hc2, hv⟩
        · exact .inl ⟨q, m2, hn2.sameBut hs' (Ne.symm (list_ne_ns hl2 hn2)), hm2⟩
        · obtain ⟨o2, ho2, hd2⟩ := id hv
          exact .inr ⟨q, c, hc2, o2, (hs'.2 _ (Ne.symm (list_ne_cell hl2 hv))).trans ho2, hd2⟩
      · have : (vs ++ [u]).toArray = vs.toArray.push u := by simp
        exact .mlist (vs := vs ++ [u]) (by rw [this]; exact hpl') hm ((((hr.kseq k2.kseq)).kseqM km hds).append (.cons (r2.kseqM km hd) .nil))
    · have e1 : (y == x) = false := by simpa using hyx
      rw [List.lookup_cons, e1] at hy
      obtain ⟨v', hb', hr'⟩ := hE2.vals y e hy
      refine ⟨v', ?_, hr'.kseqM km (hρ y e hyx hy)⟩
      rcases hb' with ⟨q, m2, hn2, hm2⟩ | ⟨q, c, hc2, hv⟩
      · exact .inl ⟨q, m2, hn2.sameBut hs' (Ne.symm (list_ne_ns hl2 hn2)), hm2⟩
      · obtain ⟨o2, ho2, hd2⟩ := id hv
        exact .inr ⟨q, c, hc2, o2, (hs'.2 _ (Ne.symm (list_ne_cell hl2 hv))).trans ho2, hd2⟩
end
end Mine

namespace Mine

/-- a text by its signs -/
def S (l : List Nat) : Str := ⟨l.toArray⟩
theorem S_length (l : List Nat) : (S l).length = l.length := by simp [S, Str.length]
theorem S_cps (l : List Nat) : (S l).cps.toList = l := by simp [S]
theorem S_inj {a b : List Nat} (h : S a = S b) : a = b := by
  have := congrArg (fun s : Str => s.cps.toList) h
  simpa [S] using this
theorem S_append (a b : List Nat) : S a ++ S b = S (a ++ b) := Str.ext' (by simp [S, Str.cps_append])
theorem S_of (x : Str) : S x.cps.toList = x := by simp [S]
theorem S_beq (a b : List Nat) : (S a == S b) = decide (a = b) := by
  by_cases h : a = b
  · subst h; simp
  · have : S a ≠ S b := fun q => h (S_inj q)
    simp [h, this]

/-- the sign c gives way to r -/
def rep (c : Nat) (r x : List Nat) : List Nat := x.flatMap fun y => if y = c then r else [y]
theorem rep_append (c : Nat) (r x y : List Nat) : rep c r (x ++ y) = rep c r x ++ rep c r y := by simp [rep]
theorem rep_free {c : Nat} {r x : List Nat} (h : c ∉ x) : rep c r x = x := by
  induction x with
  | nil => rfl
  | cons a x ih =>
    simp only [List.mem_cons, not_or] at h
    have h1 : ¬ a = c := fun e => h.1 e.symm
    have := ih h.2
    simp only [rep, List.flatMap_cons, h1, if_false] at this ⊢
    rw [this]; rfl
theorem rep_one (c : Nat) (r : List Nat) : rep c r [c] = r := by simp [rep]

theorem join_rep (c : Nat) (r : Str) : ∀ ps : List Str, (∀ p ∈ ps, c ∉ p.cps.toList) → (Str.join r ps).cps.toList = rep c r.cps.toList (Str.join ⟨#[c]⟩ ps).cps.toList
  | [], _ => rfl
  | [p], h => (rep_free (h p (.head _))).symm
  | p :: q :: ps, h => by
    have ih := join_rep c r (q :: ps) fun x hx => h x (.tail _ hx)
    have e1 : Str.join r (p :: q :: ps) = p ++ r ++ Str.join r (q :: ps) := rfl
    have e2 : Str.join ⟨#[c]⟩ (p :: q :: ps) = p ++ ⟨#[c]⟩ ++ Str.join ⟨#[c]⟩ (q :: ps) := rfl
    rw [e1, e2]
    simp only [Str.cps_append, Array.toList_append]
    rw [rep_append, rep_append, ← ih, rep_free (h p (.head _)), rep_one]

theorem join_split_rep (c : Nat) (r x : List Nat) : Txt.join (S r) (Txt.split (S x) ⟨#[c]⟩) = S (rep c r x) := by
  unfold Txt.join
  rw [StrLaws.glued_eq_join]
  have h1 := join_rep c (S r) (Txt.split (S x) ⟨#[c]⟩) (StrLaws.split_free (S x) c)
  rw [StrLaws.join_split, S_cps, S_cps] at h1
  rw [← h1, S_of]

theorem join_length (c : Nat) : ∀ ps : List Str, ps ≠ [] → (Str.join ⟨#[c]⟩ ps).length + 1 = (ps.map (·.length)).sum + ps.length
  | [p], _ => by simp [Str.join]
  | p :: q :: ps, _ => by
    have ih := join_length c (q :: ps) (by simp)
    have e2 : Str.join ⟨#[c]⟩ (p :: q :: ps) = p ++ ⟨#[c]⟩ ++ Str.join ⟨#[c]⟩ (q :: ps) := rfl
    rw [e2, Str.length_append, Str.length_append]
    simp only [List.map_cons, List.sum_cons, List.length_cons] at ih ⊢
    have : (⟨#[c]⟩ : Str).length = 1 := rfl
    omega
theorem split_size (c : Nat) (x : Str) : ((Txt.split x ⟨#[c]⟩).map (·.length)).sum + (Txt.split x ⟨#[c]⟩).length ≤ x.length + 1 := by
  by_cases h : Txt.split x ⟨#[c]⟩ = []
  · rw [h]; simp
  · have := join_length c _ h
    rw [StrLaws.join_split] at this
    omega
theorem split_fit (c : Nat) (r x : Str) (hx : x.length ≤ 900) (hr : r.length ≤ 100) : ((Txt.split x ⟨#[c]⟩).map (·.length)).sum + (Txt.split x ⟨#[c]⟩).length * r.length ≤ 1000000 := by
  have := split_size c x
  have h2 : (Txt.split x ⟨#[c]⟩).length * r.length ≤ 901 * 100 := Nat.mul_le_mul (by omega) hr
  omega
end Mine

namespace Mine

def b64 : List UInt8 := [65,66,67,68,69,70,71,72,73,74,75,76,77,78,79,80,81,82,83,84,85,86,87,88,89,90,97,98,99,100,101,102,103,104,105,106,107,108,109,110,111,112,113,114,115,116,117,118,119,120,121,122,48,49,50,51,52,53,54,55,56,57,43,47]
def tab (i : Nat) : Nat := (b64.getD i 0).toNat
def alph : List Nat := b64.map (·.toNat)
theorem b64_length : b64.length = 64 := rfl
theorem alph_get {i : Nat} (h : i < 64) : alph[i]? = some (tab i) := by
  have : ∀ i : Fin 64, alph[(i : Nat)]? = some (tab i) := by decide +kernel
  exact this ⟨i, h⟩
theorem tab_lt (i : Nat) (h : i < 64) : 43 ≤ tab i ∧ tab i < 123 := by
  have : ∀ i : Fin 64, 43 ≤ tab i ∧ tab i < 123 := by decide +kernel
  exact this ⟨i, h⟩
theorem tab_ne (i : Nat) (h : i < 64) : tab i ≠ 33 ∧ tab i ≠ 35 ∧ tab i ≠ 36 ∧ tab i ≠ 37 := by
  have := tab_lt i h
  omega

/-- the signs of octets -/
def signs : List Nat → List Nat
  | [] => []
  | [a] => [tab (a / 4), tab (a % 4 * 16), 61, 61]
  | [a, b] => [tab (a / 4), tab (a % 4 * 16 + b / 16), tab (b % 16 * 4), 61]
  | a :: b :: c :: r => tab (a / 4) :: tab (a % 4 * 16 + b / 16) :: tab (b % 16 * 4 + c / 64) :: tab (c % 64) :: signs r

theorem signs_append {a : List Nat} (h : a.length % 3 = 0) (b : List Nat) : signs (a ++ b) = signs a ++ signs b := by
  induction a using signs.induct with
  | case1 => rfl
  | case2 a => simp at h
  | case3 a b => simp at h
  | case4 a b c r ih =>
    have := ih (by simp only [List.length_cons] at h; omega)
    simp only [List.cons_append, signs, this]
theorem signs_length (a : List Nat) : (signs a).length ≤ 4 * (a.length / 3 + 1) := by
  induction a using signs.induct with
  | case1 => simp [signs]
  | case2 a => simp [signs]
  | case3 a b => simp [signs]
  | case4 a b c r ih => simp only [signs, List.length_cons]; omega
theorem signs_lt (a : List Nat) (h : ∀ x ∈ a, x < 256) : ∀ y ∈ signs a, 43 ≤ y ∧ y < 123 := by
  induction a using signs.induct with
  | case1 => intro y hy; cases hy
  | case2 a =>
    have ha := h a (.head _)
    intro y hy
    simp only [signs, List.mem_cons, List.not_mem_nil, or_false] at hy
    rcases hy with rfl | rfl | rfl | rfl
    · exact tab_lt _ (by omega)
    · exact tab_lt _ (by omega)
    · omega
    · omega
  | case3 a b =>
    have ha := h a (.head _)
    have hb := h b (.tail _ (.head _))
    intro y hy
    simp only [signs, List.mem_cons, List.not_mem_nil, or_false] at hy
    rcases hy with rfl | rfl | rfl | rfl
    · exact tab_lt _ (by omega)
    · exact tab_lt _ (by omega)
    · exact tab_lt _ (by omega)
    · omega
  | case4 a b c r ih =>
    have ha := h a (.head _)
    have hb := h b (.tail _ (.head _))
    have hc := h c (.tail _ (.tail _ (.head _)))
    have := ih fun x hx => h x (.tail _ (.tail _ (.tail _ hx)))
    intro y hy
    simp only [signs, List.mem_cons] at hy
    rcases hy with rfl | rfl | rfl | rfl | hy
    · exact tab_lt _ (by omega)
    · exact tab_lt _ (by omega)
    · exact tab_lt _ (by omega)
    · exact tab_lt _ (by omega)
    · exact this y hy

/-- one turn of the coder: bits left, the last signs' bits, the signs so far -/
def bstep (s : Nat × Nat × List Nat) (b : Nat) : Nat × Nat × List Nat :=
  let lc := (s.2.1 * 256 + b) % 65536
  if s.1 = 0 then (2, lc, s.2.2 ++ [tab (lc / 4 % 64)])
  else if s.1 = 2 then (4, lc, s.2.2 ++ [tab (lc / 16 % 64)])
  else (0, lc, s.2.2 ++ [tab (lc / 64 % 64), tab (lc % 64)])
def bfin (s : Nat × Nat × List Nat) : List Nat :=
  if s.1 = 2 then s.2.2 ++ [tab (s.2.1 % 4 * 16), 61, 61] else if s.1 = 4 then s.2.2 ++ [tab (s.2.1 % 16 * 4), 61] else s.2.2

theorem bfin_fold (bs : List Nat) (h : ∀ x ∈ bs, x < 256) : ∀ lc out, bfin (bs.foldl bstep (0, lc, out)) = out ++ signs bs := by
  induction bs using signs.induct with
  | case1 => intro lc out; simp [bfin, signs]
  | case2 a =>
    intro lc out
    have ha := h a (.head _)
    have e1 : (lc * 256 + a) % 65536 / 4 % 64 = a / 4 := by omega
    have e2 : (lc * 256 + a) % 65536 % 4 * 16 = a % 4 * 16 := by omega
    simp [bstep, bfin, signs, e1]
    congr 1; omega
  | case3 a b =>
    intro lc out
    have ha := h a (.head _)
    have hb := h b (.tail _ (.head _))
    have e1 : (lc * 256 + a) % 65536 / 4 % 64 = a / 4 := by omega
    have e2 : ((lc * 256 + a) % 65536 * 256 + b) % 65536 / 16 % 64 = a % 4 * 16 + b / 16 := by omega
    have e3 : ((lc * 256 + a) % 65536 * 256 + b) % 65536 % 16 * 4 = b % 16 * 4 := by omega
    simp [bstep, bfin, signs, e1, e2]
    congr 1; omega
  | case4 a b c r ih =>
    intro lc out
    have ha := h a (.head _)
    have hb := h b (.tail _ (.head _))
    have hc := h c (.tail _ (.tail _ (.head _)))
    have ih' := ih fun x hx => h x (.tail _ (.tail _ (.tail _ hx)))
    have e1 : (lc * 256 + a) % 65536 / 4 % 64 = a / 4 := by omega
    have e2 : ((lc * 256 + a) % 65536 * 256 + b) % 65536 / 16 % 64 = a % 4 * 16 + b / 16 := by omega
    have e3 : (((lc * 256 + a) % 65536 * 256 + b) % 65536 * 256 + c) % 65536 / 64 % 64 = b % 16 * 4 + c / 64 := by omega
    have e4 : (((lc * 256 + a) % 65536 * 256 + b) % 65536 * 256 + c) % 65536 % 64 = c % 64 := by omega
    simp only [List.foldl_cons, bstep, if_true, if_false, show ¬ (2 : Nat) = 0 by decide, show ¬ (4 : Nat) = 0 by decide, show ¬ (4 : Nat) = 2 by decide]
    rw [ih', e1, e2, e3, e4]
    simp [signs]

theorem bstep_inv (s : Nat × Nat × List Nat) (b : Nat) (h : s.1 = 0 ∨ s.1 = 2 ∨ s.1 = 4) : ((bstep s b).1 = 0 ∨ (bstep s b).1 = 2 ∨ (bstep s b).1 = 4) ∧ (bstep s b).2.1 < 65536 ∧ (bstep s b).2.2.length ≤ s.2.2.length + 2 := by
  rcases h with h | h | h <;> simp [bstep, h] <;> omega
theorem bstep_fold_inv (bs : List Nat) : ∀ s : Nat × Nat × List Nat, (s.1 = 0 ∨ s.1 = 2 ∨ s.1 = 4) → s.2.1 < 65536 →
    ((bs.foldl bstep s).1 = 0 ∨ (bs.foldl bstep s).1 = 2 ∨ (bs.foldl bstep s).1 = 4) ∧ (bs.foldl bstep s).2.1 < 65536 ∧ (bs.foldl bstep s).2.2.length ≤ s.2.2.length + 2 * bs.length := by
  induction bs with
  | nil => intro s h h2; simp [h, h2]
  | cons b bs ih =>
    intro s h h2
    obtain ⟨a1, a2, a3⟩ := bstep_inv s b h
    obtain ⟨b1, b2, b3⟩ := ih (bstep s b) a1 a2
    refine ⟨b1, b2, ?_⟩
    simp only [List.foldl_cons, List.length_cons]; omega

theorem or_add {m b : Int} (hm : 0 ≤ m) (hb : 0 ≤ b) (hb2 : b < 256) : Builtin.bitOr (m * 2 ^ 8) b = m * 256 + b := by
  have h1 : Builtin.bitXor (m * 2 ^ 8) b = m * 2 ^ 8 + b - 2 * Builtin.bitAnd (m * 2 ^ 8) b := bitXor_and _ _
  have h0 : Builtin.bitAnd (m * 2 ^ 8) b = 0 := by
    unfold Builtin.bitAnd
    rw [decide_eq_true (by omega : (0 : Int) ≤ m * 2 ^ 8), decide_eq_true hb]
    show (((m * 2 ^ 8).toNat &&& b.toNat : Nat) : Int) = 0
    have e1 : (m * 2 ^ 8).toNat = m.toNat * 256 := by omega
    have e2 : b.toNat = 255 &&& b.toNat := by
      rw [Nat.and_comm, show (255 : Nat) = 2 ^ 8 - 1 from rfl, Nat.and_two_pow_sub_one_eq_mod]; omega
    rw [e1, e2, ← Nat.and_assoc, show (255 : Nat) = 2 ^ 8 - 1 from rfl, Nat.and_two_pow_sub_one_eq_mod]
    have : m.toNat * 256 % 2 ^ 8 = 0 := by omega
    rw [this]; simp
  unfold Builtin.bitXor at h1
  rw [h0] at h1
  omega
end Mine

namespace Mine

def stm (k : Nat) : Stmt := (PySem.Challenge.pw_mr0013_01.main.body[k]?).getD (.Pass ⟨0, 0, 0, 0⟩)
def bodyOf : Stmt → List Stmt
  | .FunctionDef _ _ b _ _ _ _ _ _ _ => b
  | _ => []
def fdOf (st : Stmt) (dV kV pm : Value) (c : Addr) : FuncData := match st with
  | .FunctionDef name params body _ _ _ scope _ _ _ => { name, qualname := name, params, body := .stmts body, scope, globals := mainGlobals, closure := [], defaults := dV, kwdefaults := kV, doc := .none, pyModule := pm, annotations := none, code := .ref c, closureTuple := .none, builtins := builtinsNs }
  | _ => default

abbrev fdReplace : FuncData := fdOf (stm 2) .none .none (.str (Str.ofString "cpy313.pydoc") 194) 27

def flatP (ps : List (Nat × List Nat)) : List D := ps.flatMap fun p => [D.str ⟨#[p.1]⟩, D.str (S p.2)]
def repAll (ps : List (Nat × List Nat)) (x : List Nat) : List Nat := ps.foldl (fun x p => rep p.1 p.2 x) x

theorem flatP_length (l : List (Nat × List Nat)) : (flatP l).length = 2 * l.length := by
  induction l with
  | nil => rfl
  | cons p l ih => simp only [flatP, List.flatMap_cons, List.length_append, List.length_cons, List.length_nil] at ih ⊢; omega
theorem flatP_drop {ps : List (Nat × List Nat)} {i : Nat} (hi : i < ps.length) : flatP (ps.drop i) = D.str ⟨#[ps[i].1]⟩ :: D.str (S ps[i].2) :: flatP (ps.drop (i + 1)) := by
  rw [List.drop_eq_getElem_cons hi]; rfl
theorem repAll_take {ps : List (Nat × List Nat)} {i : Nat} (hi : i < ps.length) (x : List Nat) : repAll (ps.take (i + 1)) x = rep ps[i].1 ps[i].2 (repAll (ps.take i) x) := by
  rw [List.take_succ_eq_append_getElem hi, repAll, List.foldl_append]; rfl

section
variable {C : Cx} {f : Addr} {n : Nat}

set_option maxHeartbeats 1000000 in
theorem replace_body (L : Addr) (ps : List (Nat × List Nat)) (x : List Nat) (hx : ∀ i, (repAll (ps.take i) x).length ≤ 900) (hr : ∀ p ∈ ps, p.2.length ≤ 100) (hps : ps.length ≤ 100) :
    Ex (.fn C (callEnvC fdReplace L f)) n [("text", .str (S x)), ("pairs", .tuple (flatP ps))] (bodyOf (stm 2)) (.ret (.str (S (repAll ps x)))) := by
  refine Ex.cons (Ex1.while_ ps.length (fun i => [("text", .str (S (repAll (ps.take i) x))), ("pairs", .tuple (flatP (ps.drop i)))]) ?_ ?_ ?_ ?_) ?_
  · exact fun _ _ h => h
  · intro i hi
    have h1 : (!(flatP (ps.drop i)).isEmpty) = true := by rw [flatP_drop hi]; rfl
    rw [← h1]
    exact tr_tuple (Ev.name rfl) (by rw [flatP_length, List.length_drop]; omega)
  · intro i hi
    have hm : ps[i] ∈ ps := List.getElem_mem hi
    have hl2 : (flatP (ps.drop (i + 1))).length ≤ 1000 := by rw [flatP_length, List.length_drop]; omega
    rw [flatP_drop hi, repAll_take hi]
    generalize flatP (ps.drop (i + 1)) = rest at hl2
    have hb := hx i
    generalize repAll (ps.take i) x = y at hb
    have hr' := hr _ hm
    generalize ps[i] = p at hr'
    refine Ex.sub (Ex.cons (Ex1.assign (d := .str (S (rep p.1 p.2 y))) ?_ (.inl rfl) rfl) (Ex.cons (Ex1.assign (d := .tuple rest) ?_ (.inl rfl) rfl) Ex.nil)) ?_
    · rw [← join_split_rep]
      exact ev_join (ev_itemTup (Ev.name rfl) .int (by omega) rfl (by omega)) (ev_split rfl (Ev.name rfl) (ev_itemTup (Ev.name rfl) .int (by omega) rfl (by omega)) rfl (by rw [S_length]; omega)) (split_fit _ _ _ (by rw [S_length]; exact hb) (by rw [S_length]; exact hr'))
    · refine ev_sliceTup (k := 2) (ds := D.str ⟨#[p.1]⟩ :: D.str (S p.2) :: rest) (Ev.name rfl) .int (by omega) ?_ ?_
      · simp only [List.length_cons]; omega
      · simp only [List.length_cons]; omega
    · exact .cons rfl (.cons rfl .nil)
  · have h1 : (!(flatP (ps.drop ps.length)).isEmpty) = false := by rw [List.drop_length]; rfl
    rw [← h1]
    exact tr_tuple (Ev.name rfl) (by rw [List.drop_length]; exact Nat.zero_le _)
  · refine Ex.stop ?_
    rw [show repAll ps x = repAll (ps.take ps.length) x by rw [List.take_length]]
    exact Ex1.ret (Ev.name rfl)

theorem RdAll.cons' {mu : List Addr} {h : Heap} {vs : List Value} {d : D} {ds : List D} (r : RdAll mu h vs (d :: ds)) : ∃ v ws, vs = v :: ws ∧ Rd mu h v d ∧ RdAll mu h ws ds := by
  cases r with
  | cons a r => exact ⟨_, _, rfl, a, r⟩

set_option maxHeartbeats 1000000 in
theorem replace_ok (F : Fun C f fdReplace (bodyOf (stm 2))) (p0 p1 p2 p3 : Nat × List Nat) (x : List Nat) (hx : ∀ i, (repAll ([p0, p1, p2, p3].take i) x).length ≤ 900) (hr : ∀ p ∈ [p0, p1, p2, p3], p.2.length ≤ 100) :
    FnOk C [] (n + 1) (.ref f) [] (.str (S x) :: flatP [p0, p1, p2, p3]) [] (.str (S (repAll [p0, p1, p2, p3] x))) := by
  refine fn_ok (ρ₀ := [("text", .str (S x)), ("pairs", .tuple (flatP [p0, p1, p2, p3]))]) F (show ([Str.ofString "text", Str.ofString "pairs"]).Nodup by decide +kernel) ?_ ?_ (fun L => replace_body L _ x hx hr (by simp))
  · intro L p hp
    rcases List.mem_cons.mp hp with rfl | hp
    · exact .inl rfl
    · rw [List.mem_singleton.mp hp]; exact .inl rfl
  · intro A s vs us E Q rv ru hC hQ
    obtain ⟨v, ws, rfl, r0, rv⟩ := rv.cons'
    have rv' := rv
    have hw : ∃ a b c d e f g h : Value, ws = [a, b, c, d, e, f, g, h] := by
      obtain ⟨a, ws, rfl, _, rv⟩ := rv.cons'
      obtain ⟨b, ws, rfl, _, rv⟩ := rv.cons'
      obtain ⟨c, ws, rfl, _, rv⟩ := rv.cons'
      obtain ⟨d, ws, rfl, _, rv⟩ := rv.cons'
      obtain ⟨e, ws, rfl, _, rv⟩ := rv.cons'
      obtain ⟨f, ws, rfl, _, rv⟩ := rv.cons'
      obtain ⟨g, ws, rfl, _, rv⟩ := rv.cons'
      obtain ⟨h, ws, rfl, _, rv⟩ := rv.cons'
      cases rv
      exact ⟨a, b, c, d, e, f, g, h, rfl⟩
    obtain ⟨a, b, c, d, e, f, g, h, rfl⟩ := hw
    cases ru
    show wpAny C.M A (newTuple [a, b, c, d, e, f, g, h] >>= fun t => pure [(Str.ofString "text", v), (Str.ofString "pairs", t)]) Q E s
    refine wpAny_bind (wpAny_newObj_type (wpAny_pure (hQ _ _ .push ?_)))
    have kq : KSeq s.heap (s.heap.push { cls := .type "tuple", data := .seq [a, b, c, d, e, f, g, h].toArray }) := .of_all fun _ _ e => Heap.get?_push_of_some _ e
    exact .cons (r0.kseq kq) (.cons (.tuple ⟨_, Heap.get?_push_size _ rfl, rfl, 0, rfl⟩ (by simp) (rv'.kseq kq)) .nil)
end
end Mine

namespace Mine

abbrev fdBuffer : FuncData := fdOf (stm 4) .none .none (.str (Str.ofString "binascii") 204) 34
abbrev fdTruth : FuncData := fdOf (stm 5) .none .none (.str (Str.ofString "binascii") 204) 41
abbrev fdB2a : FuncData := fdOf (stm 7) .none (.ref 43) (.str (Str.ofString "binascii") 204) 49
abbrev fdB64e : FuncData := fdOf (stm 9) (.ref 51) .none (.str (Str.ofString "cpy313.base64") 238) 57
abbrev fdSigns : FuncData := fdOf (stm 11) .none .none (.str (Str.ofString "law_mr0013_01") 249) 62
abbrev fdWritten : FuncData := fdOf (stm 12) .none .none (.str (Str.ofString "law_mr0013_01") 249) 67
abbrev fdOrder : FuncData := fdOf (stm 13) .none .none (.str (Str.ofString "law_mr0013_01") 249) 74
abbrev fdTold : FuncData := fdOf (stm 14) .none .none (.str (Str.ofString "law_mr0013_01") 249) 79
abbrev fdLaw : FuncData := fdOf (stm 15) .none .none (.str (Str.ofString "law_mr0013_01") 249) 84

/-- a built-in's name -/
def BI (C : Cx) (x : String) (v : Value) : Prop := C.mg (Str.ofString x) = none ∧ C.mb (Str.ofString x) = some v
/-- a def of the text -/
def GF (C : Cx) (x : String) (f : Addr) (fd : FuncData) (k : Nat) : Prop := C.mg (Str.ofString x) = some (.ref f) ∧ Fun C f fd (bodyOf (stm k))

structure Names (C : Cx) : Prop where
  type_ : BI C "type" (.type "type")
  bytes_ : BI C "bytes" (.type "bytes")
  bool_ : BI C "bool" (.type "bool")
  range_ : BI C "range" (.type "range")
  len_ : BI C "len" (.builtin "len")
  sum_ : BI C "sum" (.builtin "sum")
  max_ : BI C "max" (.builtin "max")
  chr_ : BI C "chr" (.builtin "chr")
  b64_ : ∃ t, C.mg (Str.ofString "_B64") = some (.bytes b64.toArray t)
  replace : GF C "replace" 28 fdReplace 2
  buffer : GF C "_buffer" 35 fdBuffer 4
  truth : GF C "_truth" 42 fdTruth 5
  b2a : GF C "b2a_base64" 50 fdB2a 7
  b64e : GF C "b64encode" 58 fdB64e 9
  dflt : ∃ o n, C.base.get? 51 = some o ∧ o.data = .seq #[.none] n
  signs : GF C "_law_signs" 63 fdSigns 11
  written : GF C "_law_written" 68 fdWritten 12
  order : GF C "_law_order" 75 fdOrder 13
  told : GF C "_law_told" 80 fdTold 14

theorem glB {X : Act} {x : String} {v : Value} (h : BI X.C x v) (hk : X.env.kindOf (Str.ofString x) = some .globalImplicit := by rfl) (hd : (Str.ofString x == ("__debug__" : Str)) = false := by decide +kernel) : Gl X (Str.ofString x) v := ⟨hk, hd, .inr h⟩
theorem glF {X : Act} {x : String} {f : Addr} {fd : FuncData} {k : Nat} (h : GF X.C x f fd k) (hk : X.env.kindOf (Str.ofString x) = some .globalImplicit := by rfl) (hd : (Str.ofString x == ("__debug__" : Str)) = false := by decide +kernel) : Gl X (Str.ofString x) (.ref f) := ⟨hk, hd, .inl h.1⟩

theorem op_is_same {C : Cx} {mu : List Addr} {n : Nat} {a : String} : Op2 C mu n (compareOp .Is) (.ty a) (.ty a) (.bool true) := by
  have := op_is_ty (C := C) (mu := mu) (n := n) (a := a) (b := a)
  simpa using this

/-- the bind of one plain parameter -/
theorem bind1 {C : Cx} {fd : FuncData} {x : Str} {d : D} (hb : ∀ v, bindArgs fd ⟨[v], []⟩ = pure [(x, v)]) :
    ∀ A s vs us E (Q : List (Str × Value) → Shared → Prop), RdAll [] s.heap vs [d] → RdAll [] s.heap us [] → C.At s.heap → (∀ binds s', Kp s s' → BindRd s'.heap binds [(x, d)] → Q binds s') → wpAny C.M A (bindArgs fd ⟨vs, ([] : List Str).zip us⟩) Q E s := by
  intro A s vs us E Q rv ru hC hQ
  obtain ⟨v, rfl, r⟩ := rv.one
  cases ru
  show wpAny C.M A (bindArgs fd ⟨[v], []⟩) Q E s
  rw [hb v]
  exact wpAny_pure (hQ _ s (.refl s) (.cons r .nil))

section
variable {C : Cx} {n : Nat}

theorem buffer_ok (N : Names C) (b : Array UInt8) : FnOk C [] (n + 1) (.ref 35) [] [.bytes b] [] (.bytes b) := by
  refine fn_ok (ρ₀ := [("data", .bytes b)]) N.buffer.2 (show ([Str.ofString "data"]).Nodup by decide +kernel) (fun L p hp => by rw [List.mem_singleton.mp hp]; exact .inl rfl) (bind1 fun v => rfl) fun L => ?_
  refine Ex.cons (Ex1.assign (d := .ty "bytes") (Ev.call (glB N.type_) (.inr (.inl ⟨_, rfl⟩)) (Evs.cons (Ev.name rfl) Evs.nil) fn_typeBytes (.inr rfl)) (.inl rfl) rfl) ?_
  exact Ex.stop (Ex1.ite (c := true) (Tr.cmp (Ev.name rfl) (Ev.glob (glB N.bytes_) fun h => .ty _) op_is_same) (fun _ => Ex.stop (Ex1.ret (Ev.name rfl))) fun h => by cases h)

theorem truth_ok (N : Names C) : FnOk C [] (n + 1) (.ref 42) [] [.bool false] [] (.bool false) := by
  refine fn_ok (ρ₀ := [("x", .bool false)]) N.truth.2 (show ([Str.ofString "x"]).Nodup by decide +kernel) (fun L p hp => by rw [List.mem_singleton.mp hp]; exact .inl rfl) (bind1 fun v => rfl) fun L => ?_
  refine Ex.cons (Ex1.assign (d := .ty "bool") (Ev.call (glB N.type_) (.inr (.inl ⟨_, rfl⟩)) (Evs.cons (Ev.name rfl) Evs.nil) fn_typeBool (.inr rfl)) (.inl rfl) rfl) ?_
  refine Ex.stop (Ex1.ite (c := true) (tr_or (TrOr.skip (Tr.cmp (Ev.name rfl) Ev.none op_is_none_bool) (TrOr.stop (Tr.cmp (Ev.name rfl) (Ev.glob (glB N.bool_) fun h => .ty _) op_is_same)))) (fun _ => Ex.stop (Ex1.ret ?_)) fun h => by cases h)
  exact Ev.ifexp (c := false) (tr_bool (Ev.name rfl)) (fun h => by cases h) fun _ => Ev.bool
end
end Mine

namespace Mine

def iD (l : List Nat) : List D := l.map fun (k : Nat) => D.int (k : Int)
theorem iD_append (a b : List Nat) : iD (a ++ b) = iD a ++ iD b := by simp [iD]
theorem iD_length (a : List Nat) : (iD a).length = a.length := by simp [iD]
theorem iD_nom : ∀ a : List Nat, NoMs (iD a)
  | [] => trivial
  | _ :: r => ⟨trivial, iD_nom r⟩

section
variable {C : Cx} {n : Nat}

/-- the table's sign at a reckoned place -/
theorem ev_tab {X : Act} {ρ : Rho} {e : Expr} {p pos : Pos} {k : Nat} (N : Names X.C) (he : Ev X n ρ e (.int (k : Int))) (hk : k < 64) (hkd : X.env.kindOf (Str.ofString "_B64") = some .globalImplicit := by rfl)
    (hs : ∀ o i, subscripted e false o i = operate [o, i] (getItem o i) := by intro _ _; rfl) : Ev X n ρ (.Subscript (.Name "_B64" p) e pos) (.int (tab k : Int)) := by
  obtain ⟨t, ht⟩ := N.b64_
  have := ev_itemBytes (X := X) (n := n) (ρ := ρ) (value := .Name "_B64" p) (slice := e) (pos := pos) (b := b64.toArray) (k := (k : Int)) (Ev.glob (v := .bytes b64.toArray t) ⟨hkd, by decide +kernel, .inl ht⟩ fun h => .bytes ..) he (by omega) (by simp [b64_length]; omega) (by simp [b64_length]) hs
  simpa [tab] using this

def bρ (a : Addr) (bs : List Nat) (nl : Bool) (s : Nat × Nat × List Nat) : Rho :=
  [("leftbits", .int (s.1 : Int)), ("leftchar", .int (s.2.1 : Int)), ("out", .mlist a (iD s.2.2)), ("bin_data", .bytes (byteArr (bs.map fun (k : Nat) => (k : Int)))), ("newline", .bool nl)]

theorem bρ_nom {a : Addr} {bs : List Nat} {nl : Bool} {s : Nat × Nat × List Nat} {pre : Rho} (hp : ∀ y e, pre.lookup y = some e → NoM e) : ∀ y e, y ≠ Str.ofString "out" → (pre ++ bρ a bs nl s).lookup y = some e → NoM e := by
  intro y e hy h
  rw [List.lookup_append] at h
  cases hq : pre.lookup y with
  | some d => rw [hq] at h; simp at h; subst h; exact hp y d hq
  | none =>
    rw [hq] at h
    simp only [Option.none_or] at h
    have := mem_of_lookup h
    simp only [bρ, List.mem_cons, Prod.mk.injEq, List.not_mem_nil, or_false] at this
    rcases this with ⟨_, rfl⟩ | ⟨_, rfl⟩ | ⟨q, rfl⟩ | ⟨_, rfl⟩ | ⟨_, rfl⟩
    · trivial
    · trivial
    · exact absurd q hy
    · trivial
    · trivial

abbrev xB2a (C : Cx) (L a : Addr) : Act := ⟨C, callEnvC fdB2a L 50, (callEnvC fdB2a L 50).cells.map (·.2), [a]⟩

/-- the inner while's states -/
def wst (lb lc : Nat) (out : List Nat) (i : Nat) : Nat × Nat × List Nat := (lb - 6 * i, lc, out ++ (List.range i).map fun j => tab (lc / 2 ^ (lb - 6 * (j + 1)) % 64))
theorem wst_succ (lb lc : Nat) (out : List Nat) (i : Nat) : wst lb lc out (i + 1) = (lb - 6 * i - 6, lc, (wst lb lc out i).2.2 ++ [tab (lc / 2 ^ (lb - 6 * i - 6) % 64)]) := by
  have e : lb - 6 * (i + 1) = lb - 6 * i - 6 := by omega
  simp [wst, List.range_succ, e]

def lastStm (k : Nat) (l : List Stmt) : Stmt := (l[k]?).getD (.Pass ⟨0, 0, 0, 0⟩)
def forBody : Stmt → List Stmt
  | .For _ _ b _ _ => b
  | _ => []
def whileBody : Stmt → List Stmt
  | .While _ b _ _ => b
  | _ => []

theorem b2a_turn (N : Names C) (L a : Addr) (bs : List Nat) (nl : Bool) (lb lc : Nat) (out : List Nat) (h6 : 6 ≤ lb) (hlb : lb ≤ 12) (hlc : lc < 65536) (hout : out.length ≤ 1000000) :
    Ex (xB2a C L a) n (bρ a bs nl (lb, lc, out)) (whileBody (lastStm 2 (forBody (lastStm 5 (bodyOf (stm 7)))))) (.next (bρ a bs nl (lb - 6, lc, out ++ [tab (lc / 2 ^ (lb - 6) % 64)]))) := by
  have e1 : Builtin.bitAnd (((lc : Nat) : Int).fdiv (2 ^ (((lb : Nat) : Int) - 6).toNat)) 63 = ((lc / 2 ^ (lb - 6) % 64 : Nat) : Int) := by
    rw [bitAnd_m6]
    have : (((lb : Nat) : Int) - 6).toNat = lb - 6 := by omega
    rw [this, Int.fdiv_eq_ediv_of_nonneg _ (Int.le_of_lt (Int.pow_pos (by omega)))]
    push_cast
    rfl
  have e2 : ((lb : Nat) : Int) - 6 = ((lb - 6 : Nat) : Int) := by omega
  have hi : lc / 2 ^ (lb - 6) % 64 < 64 := Nat.mod_lt _ (by omega)
  refine Ex.sub (Ex.cons (ex_append (a := a) (ds := iD out) (d := .int (tab (lc / 2 ^ (lb - 6) % 64) : Int)) rfl (ev_tab N (e1 ▸ Ev.binop (Ev.binop (Ev.name rfl) (Ev.binop (Ev.name rfl) Ev.int op_sub) (op_shr (by omega))) Ev.int op_and) hi) trivial (iD_nom _) ?_ (by rw [iD_length]; exact hout)) (Ex.cons (Ex1.assign (d := .int ((lb - 6 : Nat) : Int)) (e2 ▸ Ev.binop (Ev.name rfl) Ev.int op_sub) (.inl rfl) rfl) Ex.nil)) ?_
  · exact bρ_nom (pre := []) (fun _ _ h => by simp at h)
  · exact .cons rfl (.cons rfl (.cons (by show _ = some (D.mlist a (iD (out ++ [_]))); rw [iD_append]; rfl) (.cons rfl (.cons rfl .nil))))

theorem b2a_byte (N : Names C) (L a : Addr) (bs : List Nat) (nl : Bool) (s : Nat × Nat × List Nat) (b : Nat) (hs : s.1 = 0 ∨ s.1 = 2 ∨ s.1 = 4) (hlc : s.2.1 < 65536) (hb : b < 256) (hout : s.2.2.length ≤ 900000) :
    Ex (xB2a C L a) n (("b", .int (b : Int)) :: bρ a bs nl s) (forBody (lastStm 5 (bodyOf (stm 7)))) (.next (bρ a bs nl (bstep s b))) := by
  obtain ⟨lb, lc, out⟩ := s
  simp only at hs hlc hout
  have e1 : Builtin.bitAnd (Builtin.bitOr (((lc : Nat) : Int) * 2 ^ ((8 : Int)).toNat) ((b : Nat) : Int)) 65535 = (((lc * 256 + b) % 65536 : Nat) : Int) := by
    rw [bitAnd_m16, show ((8 : Int)).toNat = 8 from rfl, or_add (by omega) (by omega) (by omega)]
    omega
  have e2 : ((lb : Nat) : Int) + 8 = ((lb + 8 : Nat) : Int) := by omega
  have hl' : (lc * 256 + b) % 65536 < 65536 := Nat.mod_lt _ (by omega)
  generalize hlc' : (lc * 256 + b) % 65536 = lc' at e1 hl'
  have hn : (lb + 8) - 6 * ((lb + 8) / 6) = (bstep (lb, lc, out) b).1 := by rcases hs with h | h | h <;> subst h <;> simp [bstep]
  have hfin : wst (lb + 8) lc' out ((lb + 8) / 6) = bstep (lb, lc, out) b := by
    rcases hs with h | h | h <;> subst h <;> simp [bstep, wst, hlc', List.range_succ]
  refine Ex.cons (Ex1.assign (d := .int (lc' : Int)) (e1 ▸ Ev.binop (Ev.binop (Ev.binop (Ev.name rfl) Ev.int (op_shl (a := ((lc : Nat) : Int)) (by omega) (by omega) (by omega))) (Ev.name rfl) op_or) Ev.int op_and) (.inl rfl) rfl) ?_
  refine Ex.cons (Ex1.assign (d := .int ((lb + 8 : Nat) : Int)) (e2 ▸ Ev.binop (Ev.name rfl) Ev.int op_add) (.inl rfl) rfl) ?_
  rw [← hfin]
  refine Ex.cons (Ex1.while_ ((lb + 8) / 6) (fun i => bρ a bs nl (wst (lb + 8) lc' out i)) ?_ ?_ ?_ ?_) Ex.nil
  · exact .cons (by simp [wst]) (.cons rfl (.cons (by first | rfl | (simp [wst]; done) | (simp [wst]; rfl)) (.cons rfl (.cons rfl .nil))))
  · intro i hi
    have h6 : 6 ≤ (lb + 8) - 6 * i := by omega
    have : decide ((6 : Int) ≤ (((lb + 8) - 6 * i : Nat) : Int)) = true := decide_eq_true (by omega)
    rw [← this]
    exact Tr.cmp (Ev.name rfl) Ev.int op_ge
  · intro i hi
    have h6 : 6 ≤ (lb + 8) - 6 * i := by omega
    rw [wst_succ]
    have := b2a_turn (n := n) N L a bs nl ((lb + 8) - 6 * i) lc' (wst (lb + 8) lc' out i).2.2 h6 (by omega) hl' (by simp [wst]; omega)
    exact this
  · have : decide ((6 : Int) ≤ (((lb + 8) - 6 * ((lb + 8) / 6) : Nat) : Int)) = false := decide_eq_false (by omega)
    rw [← this]
    exact Tr.cmp (Ev.name rfl) Ev.int op_ge

/-- octets as Python's bytes -/
def oct (bs : List Nat) : Array UInt8 := byteArr (bs.map fun (k : Nat) => (k : Int))
theorem oct_items {bs : List Nat} (h : ∀ x ∈ bs, x < 256) : ((oct bs).toList.map fun c => D.int (c.toNat : Int)) = iD bs := by
  unfold oct byteArr iD
  simp only [List.map_map]
  refine List.map_congr_left fun x hx => ?_
  have := h x hx
  simp [Nat.mod_eq_of_lt this]
theorem iD_eq (l : List Nat) : iD l = (l.map fun (k : Nat) => (k : Int)).map D.int := by simp [iD]

theorem Ex1.sub {X : Act} {ρ σ ρ' : Rho} {st : Stmt} (h : Ex1 X n ρ st (.next σ)) (k : Sub σ ρ') : Ex1 X n ρ st (.next ρ') := fun A s E Q hA hE hQ =>
  h A s E Q hA hE fun f s' kk p => hQ f s' kk ⟨p.1, p.2.sub k⟩

theorem b2a_app {X : Act} {a : Addr} {bs : List Nat} {nl : Bool} {lb lc : Nat} {out : List Nat} {xp apos pos spos : Pos} {pl : Sem Bool} {e : Expr} {k : Nat} (h : Ev X n (bρ a bs nl (lb, lc, out)) e (.int (k : Int))) (hz : out.length ≤ 1000000)
    (he : eval (.Call (.Attribute (.Name "out" xp) "append" apos) [e] [] pos) X.env = (do
      let ov ← eval (.Name "out" xp) X.env
      standAt apos.atName
      let (f, first) ← holding [ov] (getMethod ov "append" pl)
      callWith pos f first (backTo pos (starEach [e] X.env)) []) := by rfl)
    (hst : starEach [e] X.env = [(false, eval e X.env)] := by rfl) (hi : interactive X.env = false := by rfl)
    (hs : swapsWith (.Call (.Attribute (.Name "out" xp) "append" apos) [e] [] pos) none spos.line X.env = pure false := by rfl) :
    Ex1 X n (bρ a bs nl (lb, lc, out)) (.Expr (.Call (.Attribute (.Name "out" xp) "append" apos) [e] [] pos) spos) (.next (bρ a bs nl (lb, lc, out ++ [k]))) := by
  refine Ex1.sub (ex_append (a := a) (ds := iD out) rfl h trivial (iD_nom _) (bρ_nom (pre := []) (fun _ _ h => by simp at h)) (by rw [iD_length]; exact hz) (by decide +kernel) he hst hi hs) ?_
  exact .cons rfl (.cons rfl (.cons (by show _ = some (D.mlist a (iD (out ++ [_]))); rw [iD_append]; rfl) (.cons rfl (.cons rfl .nil))))

theorem b2a_tail2 (N : Names C) (L a : Addr) (bs : List Nat) (nl : Bool) (lc : Nat) (out : List Nat) (hout : out.length ≤ 900000) :
    Ex1 (xB2a C L a) n (bρ a bs nl (2, lc, out)) (lastStm 6 (bodyOf (stm 7))) (.next (bρ a bs nl (2, lc, out ++ [tab (lc % 4 * 16), 61, 61]))) := by
  have e1 : Builtin.bitAnd ((lc : Nat) : Int) 3 * 2 ^ ((4 : Int)).toNat = ((lc % 4 * 16 : Nat) : Int) := by
    rw [bitAnd_m2, show ((4 : Int)).toNat = 4 from rfl]; omega
  have e2 : out ++ [tab (lc % 4 * 16), 61, 61] = ((out ++ [tab (lc % 4 * 16)]) ++ [61]) ++ [61] := by simp
  refine Ex1.ite (c := true) (Tr.cmp (Ev.name rfl) Ev.int op_eq) (fun _ => ?_) fun h => by cases h
  rw [e2]
  refine Ex.cons (b2a_app (ev_tab N (e1 ▸ Ev.binop (Ev.binop (Ev.name rfl) Ev.int op_and) Ev.int (op_shl (by omega) (by omega) (by rw [bitAnd_m2]; omega))) (by omega)) (by omega)) ?_
  refine Ex.cons (b2a_app Ev.int (by simp; omega)) ?_
  exact Ex.cons (b2a_app Ev.int (by simp; omega)) Ex.nil

theorem b2a_tail4 (N : Names C) (L a : Addr) (bs : List Nat) (nl : Bool) (lc : Nat) (out : List Nat) (hout : out.length ≤ 900000) :
    Ex1 (xB2a C L a) n (bρ a bs nl (4, lc, out)) (lastStm 6 (bodyOf (stm 7))) (.next (bρ a bs nl (4, lc, out ++ [tab (lc % 16 * 4), 61]))) := by
  have e1 : Builtin.bitAnd ((lc : Nat) : Int) 15 * 2 ^ ((2 : Int)).toNat = ((lc % 16 * 4 : Nat) : Int) := by
    rw [bitAnd_m4, show ((2 : Int)).toNat = 2 from rfl]; omega
  have e2 : out ++ [tab (lc % 16 * 4), 61] = (out ++ [tab (lc % 16 * 4)]) ++ [61] := by simp
  refine Ex1.ite (c := false) (Tr.cmp (Ev.name rfl) Ev.int op_eq) (fun h => by cases h) fun _ => ?_
  refine Ex.cons (Ex1.ite (c := true) (Tr.cmp (Ev.name rfl) Ev.int op_eq) (fun _ => ?_) fun h => by cases h) Ex.nil
  rw [e2]
  refine Ex.cons (b2a_app (ev_tab N (e1 ▸ Ev.binop (Ev.binop (Ev.name rfl) Ev.int op_and) Ev.int (op_shl (by omega) (by omega) (by rw [bitAnd_m4]; omega))) (by omega)) (by omega)) ?_
  exact Ex.cons (b2a_app Ev.int (by simp; omega)) Ex.nil

theorem b2a_tail0 (N : Names C) (L a : Addr) (bs : List Nat) (nl : Bool) (lc : Nat) (out : List Nat) :
    Ex1 (xB2a C L a) n (bρ a bs nl (0, lc, out)) (lastStm 6 (bodyOf (stm 7))) (.next (bρ a bs nl (0, lc, out))) := by
  refine Ex1.ite (c := false) (Tr.cmp (Ev.name rfl) Ev.int op_eq) (fun h => by cases h) fun _ => ?_
  exact Ex.cons (Ex1.ite (c := false) (Tr.cmp (Ev.name rfl) Ev.int op_eq) (fun h => by cases h) fun _ => Ex.nil) Ex.nil

theorem b2a_tail (N : Names C) (L a : Addr) (bs : List Nat) (nl : Bool) (s : Nat × Nat × List Nat) (hs : s.1 = 0 ∨ s.1 = 2 ∨ s.1 = 4) (hout : s.2.2.length ≤ 900000) :
    Ex1 (xB2a C L a) n (bρ a bs nl s) (lastStm 6 (bodyOf (stm 7))) (.next (bρ a bs nl (s.1, s.2.1, bfin s))) := by
  obtain ⟨lb, lc, out⟩ := s
  simp only at hs hout ⊢
  rcases hs with rfl | rfl | rfl
  · exact b2a_tail0 N L a bs nl lc out
  · exact b2a_tail2 N L a bs nl lc out hout
  · exact b2a_tail4 N L a bs nl lc out hout

theorem b2a_body (N : Names C) (L : Addr) (bs : List Nat) (hbs : ∀ x ∈ bs, x < 256) (hl : bs.length ≤ 1000) :
    Ex (.fn C (callEnvC fdB2a L 50)) (n + 1) [("data", .bytes (oct bs)), ("newline", .bool false)] (bodyOf (stm 7)) (.ret (.bytes (oct (signs bs)))) := by
  refine Ex.cons (Ex1.assign (Ev.call (glF N.buffer) N.buffer.2.callee (Evs.cons (Ev.name rfl) Evs.nil) (buffer_ok N _) (.inl ⟨_, rfl⟩)) (.inl rfl) rfl) ?_
  refine Ex.cons (Ex1.assign (Ev.call (glF N.truth) N.truth.2.callee (Evs.cons (Ev.name rfl) Evs.nil) (truth_ok N) (.inl ⟨_, rfl⟩)) (.inl rfl) rfl) ?_
  refine ex_newM rfl rfl trivial fun a => ?_
  refine Ex.cons (Ex1.assign Ev.int (.inl rfl) rfl) ?_
  refine Ex.cons (Ex1.assign Ev.int (.inl rfl) rfl) ?_
  refine Ex.cons (Ex1.for_ (ds := iD bs) (fun i => bρ a bs false ((bs.take i).foldl bstep (0, 0, []))) ?_ ?_ (.inl rfl) ?_) ?_
  · rw [← oct_items hbs]
    exact It.bytes (Ev.name rfl)
  · exact .cons rfl (.cons rfl (.cons rfl (.cons rfl (.cons rfl .nil))))
  · intro i d hd
    rw [iD, List.getElem?_map] at hd
    cases hq : bs[i]? with
    | none => rw [hq] at hd; cases hd
    | some b =>
      rw [hq] at hd; cases hd
      have hlt : i < bs.length := (List.getElem?_eq_some_iff.mp hq).1
      have hst : (bs.take (i + 1)).foldl bstep (0, 0, []) = bstep ((bs.take i).foldl bstep (0, 0, [])) b := by
        rw [List.take_add_one, hq, List.foldl_append]; rfl
      obtain ⟨i1, i2, i3⟩ := bstep_fold_inv (bs.take i) (0, 0, []) (.inl rfl) (show 0 < 65536 by decide)
      rw [hst]
      refine b2a_byte N L a bs false _ b i1 i2 (hbs b (List.mem_of_getElem? hq)) ?_
      have : (bs.take i).length ≤ bs.length := by rw [List.length_take]; omega
      simp only [List.length_nil] at i3; omega
  · rw [iD_length, List.take_length]
    obtain ⟨i1, i2, i3⟩ := bstep_fold_inv bs (0, 0, []) (.inl rfl) (show 0 < 65536 by decide)
    simp only [List.length_nil] at i3
    refine Ex.cons (b2a_tail N L a bs false _ i1 (by omega)) ?_
    have hfin := bfin_fold bs hbs 0 []
    rw [List.nil_append] at hfin
    rw [hfin]
    refine Ex.cons (Ex1.ite (c := false) (tr_bool (Ev.name rfl)) (fun h => by cases h) fun _ => Ex.nil) ?_
    refine Ex.stop (Ex1.ret ?_)
    have hsl := signs_length bs
    refine Ev.call (ds := [.mlist a ((( signs bs).map fun (k : Nat) => (k : Int)).map D.int)]) (glB N.bytes_) (.inr (.inl ⟨_, rfl⟩)) (Evs.cons (Ev.name ?_) Evs.nil) (fn_bytesM (fun m hm => ?_) ?_) (.inr rfl)
    · rw [← iD_eq]; rfl
    · obtain ⟨k, hk, rfl⟩ := List.mem_map.mp hm
      have := signs_lt bs hbs k hk
      omega
    · rw [List.length_map]; omega

theorem b2a_ok (N : Names C) (bs : List Nat) (hbs : ∀ x ∈ bs, x < 256) (hl : bs.length ≤ 1000) : FnOk C [] (n + 2) (.ref 50) ["newline"] [.bytes (oct bs)] [.bool false] (.bytes (oct (signs bs))) := by
  refine fn_ok (ρ₀ := [("data", .bytes (oct bs)), ("newline", .bool false)]) N.b2a.2 (show ([Str.ofString "data", Str.ofString "newline"]).Nodup by decide +kernel) (fun L p hp => ?_) ?_ fun L => b2a_body N L bs hbs hl
  · rcases List.mem_cons.mp hp with rfl | hp
    · exact .inl rfl
    · rw [List.mem_singleton.mp hp]; exact .inl rfl
  · intro A s vs us E Q rv ru hC hQ
    obtain ⟨v, rfl, r⟩ := rv.one
    obtain ⟨u, rfl, r2⟩ := ru.one
    exact wpAny_of_eq (show bindArgs fdB2a ⟨[v], [(Str.ofString "newline", u)]⟩ = pure [(Str.ofString "data", v), (Str.ofString "newline", u)] from rfl) (hQ _ s (.refl s) (.cons r (.cons r2 .nil)))

theorem b64e_ok (N : Names C) (bs : List Nat) (hbs : ∀ x ∈ bs, x < 256) (hl : bs.length ≤ 1000) : FnOk C [] (n + 3) (.ref 58) [] [.bytes (oct bs)] [] (.bytes (oct (signs bs))) := by
  refine fn_ok (ρ₀ := [("s", .bytes (oct bs)), ("altchars", .none)]) N.b64e.2 (show ([Str.ofString "s", Str.ofString "altchars"]).Nodup by decide +kernel) (fun L p hp => ?_) ?_ fun L => ?_
  · rcases List.mem_cons.mp hp with rfl | hp
    · exact .inl rfl
    · rw [List.mem_singleton.mp hp]; exact .inl rfl
  · intro A s vs us E Q rv ru hC hQ
    obtain ⟨v, rfl, r⟩ := rv.one
    cases ru
    obtain ⟨o, m, ho, hd⟩ := N.dflt
    have hB : BindsTo s fdB64e ⟨[v], []⟩ [(Str.ofString "s", v), (Str.ofString "altchars", .none)] := BindsTo.of_defaults (T := 51) rfl (hC _ _ ho) hd rfl rfl
    exact hB _ _ _ _ (hQ _ s (.refl s) (.cons r (.cons .none .nil)))
  · refine Ex.cons (Ex1.assign (ev_callKw (glF N.b2a) N.b2a.2.callee (Ev.name rfl) Ev.bool (b2a_ok N bs hbs hl)) (.inl rfl) rfl) ?_
    refine Ex.cons (Ex1.ite (c := false) (Tr.cmp (Ev.name rfl) Ev.none op_isnot_none_none) (fun h => by cases h) fun _ => Ex.nil) ?_
    exact Ex.stop (Ex1.ret (Ev.name rfl))
end
end Mine

namespace Mine

theorem join_empty (ys : List (List Nat)) : Txt.join (Str.ofString "") (ys.map S) = S (ys.flatten) := by
  unfold Txt.join
  rw [StrLaws.glued_eq_join, show Str.ofString "" = ⟨#[]⟩ from by decide +kernel]
  induction ys with
  | nil => rfl
  | cons y ys ih => rw [List.map_cons, join_nil_cons, ih, List.flatten_cons, S_append]

def gChr : D → List D
  | .int i => [.str ⟨#[i.toNat]⟩]
  | _ => []
theorem gChr_all (l : List Nat) : (iD l).flatMap gChr = ((l.map fun k => [k]).map S).map D.str := by
  induction l with
  | nil => rfl
  | cons k l ih => simp only [iD, List.map_cons, List.flatMap_cons] at ih ⊢; rw [ih]; rfl

section
variable {C : Cx} {n : Nat}

theorem noSees {X : Act} {ρ : Rho} {scope : Scope} (hc : closureFor scope X.env = pure []) (hk : scope.kind = .function) (hcell : ∀ y ∈ scope.names, y.2 ≠ .cell) (hn : ∀ y ∈ scope.names, y.2 = .local → scope.names.lookup y.1 = some .local) : Sees X ρ [] scope [] :=
  ⟨hc, fun p hp => by (cases hp), .nil, fun y e h => by simp at h, fun y e h => by simp at h, hk, hcell, hn⟩

theorem written_ok (N : Names C) (bs : List Nat) (hbs : ∀ x ∈ bs, x < 256) (hl : bs.length ≤ 1000) : FnOk C [] (n + 4) (.ref 68) [] [.list (iD bs)] [] (.str (S (signs bs))) := by
  have hsl := signs_length bs
  have hlt := signs_lt bs hbs
  refine fn_ok (ρ₀ := [("row", .list (iD bs))]) N.written.2 (show ([Str.ofString "row"]).Nodup by decide +kernel) (fun L p hp => by rw [List.mem_singleton.mp hp]; exact .inl rfl) (bind1 fun v => rfl) fun L => ?_
  refine Ex.stop (Ex1.ret ?_)
  have e : S (signs bs) = Txt.join (Str.ofString "") (((signs bs).map fun k => [k]).map S) := by
    rw [join_empty]
    congr 1
    induction signs bs with
    | nil => rfl
    | cons a l ih => simp [← ih]
  rw [e]
  refine ev_join Ev.str ?_ ?_
  · rw [← gChr_all]
    refine ev_comp [] gChr (noSees rfl rfl (by decide +kernel) (by decide +kernel)) rfl ?_ (iD_nom _) rfl rfl ?_ ?_ ?_
    · rw [← oct_items (bs := signs bs) fun x hx => by have := hlt x hx; omega]
      refine It.bytes (Ev.call (glF N.b64e) N.b64e.2.callee (Evs.cons (Ev.call (glB N.bytes_) (.inr (.inl ⟨_, rfl⟩)) (Evs.cons (Ev.name rfl) Evs.nil) ?_ (.inr rfl)) Evs.nil) (b64e_ok N bs hbs hl) (.inl ⟨_, rfl⟩))
      rw [iD_eq]
      refine fn_bytes (fun m hm => ?_) (by rw [List.length_map]; omega)
      obtain ⟨k, hk, rfl⟩ := List.mem_map.mp hm
      have := hbs k hk
      omega
    · intro d hd
      obtain ⟨k, hk, rfl⟩ := List.mem_map.mp hd
      exact ⟨trivial, trivial⟩
    · rw [gChr_all]; simp; omega
    · intro c l d hd
      obtain ⟨k, hk, rfl⟩ := List.mem_map.mp hd
      have := hlt k hk
      refine ⟨true, Tests.nil, fun _ => ⟨_, rfl, ?_⟩, fun h => by cases h⟩
      exact Ev.call (glB N.chr_) (.inl ⟨_, rfl⟩) (Evs.cons (Ev.name rfl) Evs.nil) (fn_chr (by omega) (by omega)) (.inr rfl)
  · have : ((((signs bs).map fun k => [k]).map S).map (·.length)).sum = (signs bs).length := by
      induction signs bs with
      | nil => rfl
      | cons a l ih => simp only [List.map_cons, List.sum_cons, S_length, List.length_cons, List.length_nil] at ih ⊢; omega
    rw [this]
    have h0 : (Str.ofString "").length = 0 := by decide +kernel
    rw [h0]; omega
end
end Mine

namespace Mine

theorem Ev.ieq {X : Act} {n : Nat} {ρ : Rho} {e : Expr} {i j : Int} (h : Ev X n ρ e (.int i)) (q : i = j) : Ev X n ρ e (.int j) := q ▸ h
theorem Ev.leq {X : Act} {n : Nat} {ρ : Rho} {e : Expr} {i j : List D} (h : Ev X n ρ e (.list i)) (q : i = j) : Ev X n ρ e (.list j) := q ▸ h
theorem Ev.seq {X : Act} {n : Nat} {ρ : Rho} {e : Expr} {i j : Str} (h : Ev X n ρ e (.str i)) (q : i = j) : Ev X n ρ e (.str j) := q ▸ h
theorem fdiv_nat (a b : Nat) : ((a : Nat) : Int).fdiv ((b : Nat) : Int) = ((a / b : Nat) : Int) := by
  rw [Int.fdiv_eq_ediv_of_nonneg _ (by omega)]; rfl
theorem fmod_nat (a b : Nat) : ((a : Nat) : Int).fmod ((b : Nat) : Int) = ((a % b : Nat) : Int) := by
  rw [Int.fmod_eq_emod_of_nonneg _ (by omega)]; rfl

theorem sees1 {X : Act} {ρ : Rho} {scope : Scope} {x : Str} {c : Addr} {d : D} (hclos : closureFor scope X.env = pure [(x, c)]) (hmem : (x, c) ∈ X.env.cells) (hρ : ρ.lookup x = some d) (hkd : X.env.kindOf x = some .cell)
    (hrel : (relabel scope X.env).names.lookup x = some .cell) (hcl : X.env.cells.lookup x = some c) (hnom : NoM d) (hk : scope.kind = .function) (hcell : ∀ y ∈ scope.names, y.2 ≠ .cell) (hn : ∀ y ∈ scope.names, y.2 = .local → scope.names.lookup y.1 = some .local) : Sees X ρ [(x, d)] scope [(x, c)] := by
  have key : ∀ y e, ([(x, d)] : Rho).lookup y = some e → y = x ∧ e = d := fun y e h => by
    have := mem_of_lookup h
    rw [List.mem_singleton, Prod.mk.injEq] at this
    exact this
  refine ⟨hclos, fun p hp => by rw [List.mem_singleton.mp hp]; exact hmem, by simp, fun y e h => ?_, fun y e h => ?_, hk, hcell, hn⟩
  · obtain ⟨rfl, rfl⟩ := key y e h
    exact ⟨hρ, hkd, hrel, by rw [hcl]; simp⟩
  · obtain ⟨rfl, rfl⟩ := key y e h
    exact hnom

theorem pick3 (bs : List Nat) (a : Nat) : pick (iD bs) (some (a : Int)) (some ((a : Int) + 3)) = iD ((bs.drop a).take 3) := by
  unfold pick kms_lo kms_hi
  have h1 : ¬ ((a : Int) < 0) := by omega
  have h2 : ¬ ((a : Int) + 3 < 0) := by omega
  simp only [h1, h2, if_false, iD_length]
  have e1 : ((a : Int) + 3).toNat = a + 3 := by omega
  rw [Int.toNat_natCast, e1]
  by_cases h : a ≤ bs.length
  · have e2 : min a bs.length = a := by omega
    rw [e2]
    simp only [iD, ← List.map_drop, ← List.map_take]
    congr 1
    by_cases h3 : a + 3 ≤ bs.length
    · rw [show min (a + 3) bs.length - a = 3 by omega]
    · rw [List.take_of_length_le (by rw [List.length_drop]; omega), List.take_of_length_le (by rw [List.length_drop]; omega)]
  · have e2 : min a bs.length = bs.length := by omega
    have e3 : min (a + 3) bs.length = bs.length := by omega
    rw [e2, e3]
    simp [List.drop_eq_nil_of_le (by omega : bs.length ≤ a), iD]

def gAl : D → List D
  | .int i => [.str (S [tab i.toNat])]
  | _ => []
theorem gAl_all (l : List Nat) : (iD l).flatMap gAl = ((l.map fun k => [tab k]).map S).map D.str := by
  induction l with
  | nil => rfl
  | cons k l ih => simp only [iD, List.map_cons, List.flatMap_cons] at ih ⊢; rw [ih]; rfl

section
variable {C : Cx} {n : Nat}

abbrev xSigns (C : Cx) (L : Addr) : Act := .fn C (callEnvC fdSigns L 63)
abbrev sρ (bs : List Nat) (acc : List Nat) : Rho := [("signs", .str (S acc)), ("alphabet", .str (S alph)), ("octets", .list (iD bs))]
abbrev sBody : List Stmt := forBody (lastStm 2 (bodyOf (stm 11)))

/-- the figures' signs -/
theorem signs_comp {L : Addr} {ρ : Rho} {x : Expr} {pos px : Pos} (figs : List Nat) (hf : ∀ k ∈ figs, k < 64) (hl : figs.length ≤ 10) (hρ : ρ.lookup (Str.ofString "alphabet") = some (.str (S alph))) (hx : Ev (xSigns C L) n ρ x (.list (iD figs))) {scope : Scope} {a1 a2 a3 : Pos}
    (hscope : closureFor scope (xSigns C L).env = pure [(Str.ofString "alphabet", L + 1)]) (hrel : (relabel scope (xSigns C L).env).names.lookup (Str.ofString "alphabet") = some .cell) (hk : scope.kind = .function) (hcell : ∀ y ∈ scope.names, y.2 ≠ .cell) (hn : ∀ y ∈ scope.names, y.2 = .local → scope.names.lookup y.1 = some .local)
    (hfig : scope.names.lookup (Str.ofString "figure") = some .local)
    (hs : ∀ z, foldedSetIterable x (xSigns C L).env z = pure z) :
    Ev (xSigns C L) n ρ (.ListComp (.Subscript (.Name "alphabet" a1) (.Name "figure" a2) a3) [⟨.Name "figure" px, x, [], 0⟩] scope pos) (.list (((figs.map fun k => [tab k]).map S).map D.str)) := by
  rw [← gAl_all]
  refine ev_comp [(Str.ofString "alphabet", L + 1)] gAl (sees1 hscope (List.mem_singleton.mpr rfl) hρ rfl hrel rfl trivial hk hcell hn) rfl (It.list hx rfl) (iD_nom _) hfig rfl ?_ ?_ ?_ hs
  · intro d hd
    obtain ⟨k, hk, rfl⟩ := List.mem_map.mp hd
    exact ⟨trivial, trivial⟩
  · rw [gAl_all]; simp; omega
  · intro c l d hd
    obtain ⟨k, hk, rfl⟩ := List.mem_map.mp hd
    refine ⟨true, Tests.nil, fun _ => ⟨_, rfl, ?_⟩, fun h => by cases h⟩
    have hk64 := hf k hk
    refine ev_itemStr (x := S alph) (k := (k : Int)) (Ev.name rfl) (Ev.name rfl) (by omega) (by omega) ?_
    have := alph_get hk64
    simpa [S] using this

theorem fit_signs (figs : List Nat) (hl : figs.length ≤ 10) : ((((figs.map fun k => [tab k]).map S).map (·.length)).sum + ((figs.map fun k => [tab k]).map S).length * (Str.ofString "").length) ≤ 1000000 := by
  have h0 : (Str.ofString "").length = 0 := by decide +kernel
  have : (((figs.map fun k => [tab k]).map S).map (·.length)).sum = figs.length := by
    clear hl
    induction figs with
    | nil => rfl
    | cons a l ih => simp only [List.map_cons, List.sum_cons, S_length, List.length_cons, List.length_nil] at ih ⊢; omega
  rw [this, h0]; omega
theorem flat_tab (figs : List Nat) : (figs.map fun k => [tab k]).flatten = figs.map tab := by
  induction figs with
  | nil => rfl
  | cons a l ih => simp [ih]

theorem signs_turn (N : Names C) (L : Addr) (bs acc : List Nat) (i : Nat) (p : List Nat) (h m l : Nat) (hpd : (bs.drop (3 * i)).take 3 = p) (hp3 : pick (iD p ++ [.int 0, .int 0]) none (some 3) = iD [h, m, l]) (hk0 : 1 ≤ p.length) (hk3 : p.length ≤ 3)
    (hh : h < 256) (hm : m < 256) (hl : l < 256) (hacc : acc.length ≤ 100000) (hbs : bs.length ≤ 1000)
    (hfin : signs p = ([h / 4, h % 4 * 16 + m / 16, m % 16 * 4 + l / 64, l % 64].take (p.length + 1)).map tab ++ List.replicate (3 - p.length) 61) (hi : 3 * i ≤ 1000) :
    Ex (xSigns C L) n (("place", .int ((3 * i : Nat) : Int)) :: sρ bs acc) sBody (.next (sρ bs (acc ++ signs p))) := by
  generalize hF : [h / 4, h % 4 * 16 + m / 16, m % 16 * 4 + l / 64, l % 64] = F at hfin
  refine Ex.sub (ρ' := sρ bs (acc ++ signs p)) (Ex.cons (Ex1.assign (d := .list (iD p)) ?_ (.inl rfl) rfl) (Ex.cons (ex_unpack3 (d1 := .int (h : Int)) (d2 := .int (m : Int)) (d3 := .int (l : Int)) ?_ rfl rfl rfl) (Ex.cons (Ex1.assign (d := .list (iD F)) ?_ (.inl rfl) rfl) (Ex.cons (Ex1.assign (d := .str (S (acc ++ signs p))) ?_ (.inl rfl) rfl) Ex.nil)))) ?_
  · rw [← hpd, ← pick3]
    exact ev_slice (kl := some ((3 * i : Nat) : Int)) (kh := some (((3 * i : Nat) : Int) + 3)) (Ev.name rfl) (Ev.name rfl : Ev _ _ _ _ _) (Ev.binop (Ev.name rfl) Ev.int op_add : Ev _ _ _ _ _) (by rw [iD_length]; omega)
  · have hq : D.list [.int (h : Int), .int (m : Int), .int (l : Int)] = .list (pick (iD p ++ [.int 0, .int 0]) none (some 3)) := by rw [hp3]; rfl
    rw [hq]
    exact ev_slice (kl := none) (kh := some 3) (ev_addList (Ev.name rfl) (Ev.list (Evs.cons Ev.int (Evs.cons Ev.int Evs.nil)) (by simp)) (by simp [iD_length]; omega)) (True.intro : True) (Ev.int : Ev _ _ _ _ _) (by simp [iD_length]; omega)
  · rw [← hF]
    have a1 : ((h : Nat) : Int).fdiv 4 = ((h / 4 : Nat) : Int) := fdiv_nat h 4
    have a2 : ((h : Nat) : Int).fmod 4 * 16 + ((m : Nat) : Int).fdiv 16 = ((h % 4 * 16 + m / 16 : Nat) : Int) := by
      have q1 : ((h : Nat) : Int).fmod 4 = ((h % 4 : Nat) : Int) := fmod_nat h 4
      have q2 : ((m : Nat) : Int).fdiv 16 = ((m / 16 : Nat) : Int) := fdiv_nat m 16
      rw [q1, q2]; omega
    have a3 : ((m : Nat) : Int).fmod 16 * 4 + ((l : Nat) : Int).fdiv 64 = ((m % 16 * 4 + l / 64 : Nat) : Int) := by
      have q1 : ((m : Nat) : Int).fmod 16 = ((m % 16 : Nat) : Int) := fmod_nat m 16
      have q2 : ((l : Nat) : Int).fdiv 64 = ((l / 64 : Nat) : Int) := fdiv_nat l 64
      rw [q1, q2]; omega
    have a4 : ((l : Nat) : Int).fmod 64 = ((l % 64 : Nat) : Int) := fmod_nat l 64
    refine Ev.list (Evs.cons (Ev.ieq (Ev.binop (Ev.name rfl) Ev.int (op_fdiv (by decide) (by decide))) a1) (Evs.cons (Ev.ieq (Ev.binop (Ev.binop (Ev.binop (Ev.name rfl) Ev.int (op_fmod (by decide))) Ev.int (op_mul (.of_right (by decide +kernel)))) (Ev.binop (Ev.name rfl) Ev.int (op_fdiv (by decide) (by decide))) op_add) a2) (Evs.cons (Ev.ieq (Ev.binop (Ev.binop (Ev.binop (Ev.name rfl) Ev.int (op_fmod (by decide))) Ev.int (op_mul (.of_right (by decide +kernel)))) (Ev.binop (Ev.name rfl) Ev.int (op_fdiv (by decide) (by decide))) op_add) a3) (Evs.cons (Ev.ieq (Ev.binop (Ev.name rfl) Ev.int (op_fmod (by decide))) a4) Evs.nil)))) (by simp [iD])
  · have hFl : F.length = 4 := by rw [← hF]; rfl
    have hF64 : ∀ k ∈ F, k < 64 := by rw [← hF]; intro k hk; simp only [List.mem_cons, List.not_mem_nil, or_false] at hk; omega
    have hpk : pick (iD F) none (some (((p.length : Nat) : Int) + 1)) = iD (F.take (p.length + 1)) := by
      unfold pick kms_lo kms_hi
      have h2 : ¬ (((p.length : Nat) : Int) + 1 < 0) := by omega
      have h3 : (((p.length : Nat) : Int) + 1).toNat = p.length + 1 := by omega
      simp only [h2, if_false, h3, iD_length, hFl, List.drop_zero, Nat.sub_zero]
      rw [show min (p.length + 1) 4 = p.length + 1 by omega]
      simp only [iD, ← List.map_take]
    have hsl : Txt.slice (S [61, 61, 61]) (some ((p.length : Nat) : Int)) none = S (List.replicate (3 - p.length) 61) := by
      have : p.length = 1 ∨ p.length = 2 ∨ p.length = 3 := by omega
      rcases this with q | q | q <;> rw [q] <;> decide +kernel
    have hfl : (F.take (p.length + 1)).length ≤ 10 := by rw [List.length_take]; omega
    have hlast : S (acc ++ signs p) = S acc ++ Txt.join (Str.ofString "") (((F.take (p.length + 1)).map fun k => [tab k]).map S) ++ Txt.slice (S [61, 61, 61]) (some ((p.length : Nat) : Int)) none := by
      rw [join_empty, flat_tab, hsl, S_append, S_append, hfin, List.append_assoc]
    have hjl : (Txt.join (Str.ofString "") (((F.take (p.length + 1)).map fun k => [tab k]).map S)).length ≤ 10 := by
      rw [join_empty, flat_tab, S_length, List.length_map]; exact hfl
    have hsl2 : (Txt.slice (S [61, 61, 61]) (some ((p.length : Nat) : Int)) none).length ≤ 3 := by
      rw [hsl, S_length, List.length_replicate]; omega
    refine Ev.seq (Ev.binop (Ev.binop (Ev.name rfl) (ev_join Ev.str (signs_comp (F.take (p.length + 1)) (fun k hk => hF64 k (List.mem_of_mem_take hk)) hfl rfl ?_ rfl rfl rfl (by decide +kernel) (by decide +kernel) rfl (fun _ => rfl)) (fit_signs _ hfl)) (op_add_str ?_)) (ev_sliceStr (x := S [61, 61, 61]) Ev.str (Ev.call (glB N.len_) (.inl ⟨_, rfl⟩) (Evs.cons (Ev.name rfl) Evs.nil) (fn_len (by rw [iD_length]; omega)) (.inr rfl)) (by decide)) (op_add_str ?_)) (by rw [hlast, iD_length])
    · exact Ev.leq (ev_slice (kl := none) (kh := some (((p.length : Nat) : Int) + 1)) (Ev.name rfl) (True.intro : True) (Ev.ieq (Ev.binop (Ev.call (glB N.len_) (.inl ⟨_, rfl⟩) (Evs.cons (Ev.name rfl) Evs.nil) (fn_len (by rw [iD_length]; omega)) (.inr rfl)) Ev.int op_add) (by rw [iD_length]) : Ev _ _ _ _ _) (by rw [iD_length]; omega)) hpk
    · rw [S_length]; omega
    · rw [Str.length_append, S_length, iD_length]; omega
  · exact .cons rfl (.cons rfl (.cons rfl .nil))

theorem signs_turn' (N : Names C) (L : Addr) (bs : List Nat) (hbs : ∀ x ∈ bs, x < 256) (hlen : bs.length ≤ 1000) (i : Nat) (hi : 3 * i < bs.length) :
    Ex (xSigns C L) n (("place", .int ((3 * i : Nat) : Int)) :: sρ bs (signs (bs.take (3 * i)))) sBody (.next (sρ bs (signs (bs.take (3 * (i + 1)))))) := by
  have e1 : bs.take (3 * (i + 1)) = bs.take (3 * i) ++ (bs.drop (3 * i)).take 3 := by rw [← List.take_add]; congr 1
  have e2 : (bs.take (3 * i)).length % 3 = 0 := by rw [List.length_take]; omega
  rw [e1, signs_append e2]
  have hacc : (signs (bs.take (3 * i))).length ≤ 100000 := by
    have := signs_length (bs.take (3 * i))
    rw [List.length_take] at this; omega
  generalize hp : (bs.drop (3 * i)).take 3 = p
  have hpl : p.length = min 3 (bs.length - 3 * i) := by rw [← hp, List.length_take, List.length_drop]
  have hpm : ∀ x ∈ p, x < 256 := fun x hx => hbs x (List.mem_of_mem_drop (List.mem_of_mem_take (hp ▸ hx)))
  match p, hp, hpl, hpm with
  | [], hp, hpl, hpm => simp at hpl; omega
  | [a], hp, hpl, hpm => exact signs_turn N L bs _ i [a] a 0 0 hp rfl (by simp) (by simp) (hpm a (by simp)) (by omega) (by omega) hacc hlen (by simp [signs]) (by omega)
  | [a, b], hp, hpl, hpm => exact signs_turn N L bs _ i [a, b] a b 0 hp rfl (by simp) (by simp) (hpm a (by simp)) (hpm b (by simp)) (by omega) hacc hlen (by simp [signs]) (by omega)
  | [a, b, c], hp, hpl, hpm => exact signs_turn N L bs _ i [a, b, c] a b c hp rfl (by simp) (by simp) (hpm a (by simp)) (hpm b (by simp)) (hpm c (by simp)) hacc hlen (by simp [signs]) (by omega)
  | a :: b :: c :: d :: r, hp, hpl, hpm => simp at hpl; omega

theorem signs_ok (N : Names C) (bs : List Nat) (hbs : ∀ x ∈ bs, x < 256) (hlen : bs.length ≤ 1000) : FnOk C [] (n + 1) (.ref 63) [] [.list (iD bs)] [] (.str (S (signs bs))) := by
  refine fn_ok (ρ₀ := [("octets", .list (iD bs))]) N.signs.2 (show ([Str.ofString "octets"]).Nodup by decide +kernel) (fun L p hp => by rw [List.mem_singleton.mp hp]; exact .inl rfl) (bind1 fun v => rfl) fun L => ?_
  refine Ex.cons (Ex1.assign (d := .str (S alph)) (Ev.seq Ev.str (by decide +kernel)) (.inr ⟨rfl, rfl, rfl⟩) rfl) ?_
  refine Ex.cons (Ex1.assign (d := .str (S [])) (Ev.seq Ev.str (by decide +kernel)) (.inl rfl) rfl) ?_
  have hN : 3 * ((bs.length + 2) / 3) < bs.length + 3 := by omega
  refine Ex.cons (Ex1.for_ (ds := (List.range ((bs.length + 2) / 3)).map fun (i : Nat) => D.int ((i : Int) * 3)) (fun i => sρ bs (signs (bs.take (3 * i)))) (it_range3 (b := ((bs.length : Nat) : Int)) (c := 3) ((bs.length + 2) / 3) (glB N.range_) Ev.int (Ev.ieq (Ev.call (glB N.len_) (.inl ⟨_, rfl⟩) (Evs.cons (Ev.name rfl) Evs.nil) (fn_len (by rw [iD_length]; omega)) (.inr rfl)) (by rw [iD_length])) Ev.int (by omega) (by omega) (by omega) (by omega) ?_ (by omega)) ?_ (.inl rfl) ?_) ?_
  · unfold Builtin.Range.rangeSize
    simp only [show (3 : Int) > 0 by decide, if_true]
    split <;> omega
  · exact .cons rfl (.cons rfl (.cons rfl .nil))
  · intro i d hd
    rw [List.getElem?_map] at hd
    by_cases hi : i < (bs.length + 2) / 3
    · rw [List.getElem?_range hi] at hd
      cases hd
      have e : ((i : Nat) : Int) * 3 = ((3 * i : Nat) : Int) := by omega
      have := signs_turn' (n := n) N L bs hbs hlen i (by omega)
      rw [← e] at this
      exact this
    · rw [List.getElem?_eq_none (by rw [List.length_range]; omega)] at hd; cases hd
  · refine Ex.stop (Ex1.ret ?_)
    refine Ev.seq (Ev.name rfl) ?_
    rw [List.length_map, List.length_range, List.take_of_length_le (by omega)]
end
end Mine

namespace Mine

theorem pick_take (ds : List D) (k : Nat) : pick ds none (some (k : Int)) = ds.take k := by
  unfold pick kms_lo kms_hi
  have h1 : ¬ ((k : Int) < 0) := by omega
  simp only [h1, if_false, Int.toNat_natCast, List.drop_zero, Nat.sub_zero]
  by_cases h : k ≤ ds.length
  · rw [show min k ds.length = k by omega]
  · rw [show min k ds.length = ds.length by omega, List.take_length, List.take_of_length_le (by omega)]
theorem pick_drop (ds : List D) (k : Nat) : pick ds (some (k : Int)) none = ds.drop k := by
  unfold pick kms_lo kms_hi
  have h1 : ¬ ((k : Int) < 0) := by omega
  simp only [h1, if_false, Int.toNat_natCast]
  by_cases h : k ≤ ds.length
  · rw [show min k ds.length = k by omega, List.take_of_length_le (by rw [List.length_drop]; omega)]
  · rw [show min k ds.length = ds.length by omega]
    simp [List.drop_eq_nil_of_le (by omega : ds.length ≤ k)]
theorem iD_take (l : List Nat) (k : Nat) : (iD l).take k = iD (l.take k) := by simp [iD]
theorem iD_drop (l : List Nat) (k : Nat) : (iD l).drop k = iD (l.drop k) := by simp [iD]

/-- s is put into l at the place r -/
def ins (r s : Nat) (l : List Nat) : List Nat := l.take r ++ [s] ++ l.drop r
theorem ins_length (r s : Nat) (l : List Nat) : (ins r s l).length = l.length + 1 := by
  have := congrArg List.length (List.take_append_drop r l)
  rw [List.length_append] at this
  simp only [ins, List.length_append, List.length_cons, List.length_nil]; omega
/-- the order's making -/
def ordSt (m : Int) : Nat → Int × List Nat
  | 0 => (m, [])
  | i + 1 => ((ordSt m i).1.fdiv ((i : Int) + 1), ins ((ordSt m i).1.fmod ((i : Int) + 1)).toNat i (ordSt m i).2)
theorem ordSt_length (m : Int) : ∀ i, (ordSt m i).2.length = i
  | 0 => rfl
  | i + 1 => by rw [ordSt]; simp only [ins_length, ordSt_length m i]

theorem fmod_range (a : Int) (i : Nat) : 0 ≤ a.fmod ((i : Int) + 1) ∧ a.fmod ((i : Int) + 1) < (i : Int) + 1 :=
  ⟨Int.fmod_nonneg_of_pos a (by omega), Int.fmod_lt_of_pos a (by omega)⟩

section
variable {C : Cx} {n : Nat}

abbrev oρ (s : Int × List Nat) : Rho := [("order", .list (iD s.2)), ("mixed", .int s.1)]

theorem order_turn (L : Addr) (m : Int) (o : List Nat) (i : Nat) (hi : i < 4) (ho : o.length = i) :
    Ex (.fn C (callEnvC fdOrder L 75)) n (("step", .int (i : Int)) :: oρ (m, o)) (forBody (lastStm 1 (bodyOf (stm 13)))) (.next (oρ (m.fdiv ((i : Int) + 1), ins (m.fmod ((i : Int) + 1)).toNat i o))) := by
  have hr := fmod_range m i
  have e0 : m.fmod ((i : Int) + 1) = (((m.fmod ((i : Int) + 1)).toNat : Nat) : Int) := by omega
  generalize hq : (m.fmod ((i : Int) + 1)).toNat = r at e0
  have hne : (i : Int) + 1 ≠ 0 := by omega
  refine Ex.sub (Ex.cons (Ex1.assign (d := .list (iD (ins r i o))) ?_ (.inl rfl) rfl) (Ex.cons (Ex1.assign (Ev.binop (Ev.name rfl) (Ev.binop (Ev.name rfl) Ev.int op_add) (op_fdiv hne (by omega))) (.inl rfl) rfl) Ex.nil)) ?_
  · have hz : (o.take r).length ≤ 4 := by rw [List.length_take]; omega
    have hz2 : (o.drop r).length ≤ 4 := by rw [List.length_drop]; omega
    refine Ev.leq (ev_addList (ev_addList (Ev.leq (ev_slice (kl := none) (kh := some (r : Int)) (ds := iD o) (Ev.name rfl) (True.intro : True) (Ev.ieq (Ev.binop (Ev.name rfl) (Ev.binop (Ev.name rfl) Ev.int op_add) (op_fmod hne)) e0 : Ev _ _ _ _ _) (by rw [iD_length]; omega)) (by rw [pick_take, iD_take])) (Ev.list (ds := [.int (i : Int)]) (Evs.cons (Ev.name rfl) Evs.nil) (by simp)) ?_) (Ev.leq (ev_slice (kl := some (r : Int)) (kh := none) (ds := iD o) (Ev.name rfl) (Ev.ieq (Ev.binop (Ev.name rfl) (Ev.binop (Ev.name rfl) Ev.int op_add) (op_fmod hne)) e0 : Ev _ _ _ _ _) (True.intro : True) (by rw [iD_length]; omega)) (by rw [pick_drop, iD_drop])) ?_) ?_
    · simp only [iD_length, List.length_cons, List.length_nil]; omega
    · simp only [List.length_append, iD_length, List.length_cons, List.length_nil]; omega
    · simp only [ins, iD_append]; rfl
  · exact .cons rfl (.cons rfl .nil)

theorem order_ok (N : Names C) (m : Int) : FnOk C [] (n + 1) (.ref 75) [] [.int m] [] (.list (iD (ordSt m 4).2)) := by
  refine fn_ok (ρ₀ := [("mixed", .int m)]) N.order.2 (show ([Str.ofString "mixed"]).Nodup by decide +kernel) (fun L p hp => by rw [List.mem_singleton.mp hp]; exact .inl rfl) (bind1 fun v => rfl) fun L => ?_
  refine Ex.cons (Ex1.assign (d := .list (iD [])) (Ev.list Evs.nil (by decide)) (.inl rfl) rfl) ?_
  refine Ex.cons (Ex1.for_ (ds := (List.range 4).map fun (i : Nat) => D.int (i : Int)) (fun i => oρ (ordSt m i)) (it_range1 4 (glB N.range_) Ev.int (by omega)) ?_ (.inl rfl) ?_) ?_
  · exact .cons rfl (.cons rfl .nil)
  · intro i d hd
    rw [List.getElem?_map] at hd
    by_cases hi : i < 4
    · rw [List.getElem?_range hi] at hd
      cases hd
      exact order_turn L _ _ i hi (ordSt_length m i)
    · rw [List.getElem?_eq_none (by rw [List.length_range]; omega)] at hd; cases hd
  · exact Ex.stop (Ex1.ret (Ev.name rfl))
end
end Mine

namespace Mine

/-- what is told of a thing: what one call leaves, how many calls, the octets behind it -/
abbrev T := List Nat × Nat × List Nat
def tD (t : T) : D := .list [.list (iD t.1), .int (t.2.1 : Int), .list (iD t.2.2)]
def LD (l : List (List Nat)) : D := .list (l.map fun x => D.list (iD x))

def tstep (turns : List Nat) (tl : List T) (step : Nat) (acc : T) (item : Nat) : T :=
  if turns.getD (4 + step) 0 < turns.getD item 0 then (acc.1 ++ (tl.getD item ([], 0, [])).1, max acc.2.1 (tl.getD item ([], 0, [])).2.1, acc.2.2 ++ (tl.getD item ([], 0, [])).2.2)
  else (acc.1 ++ [item], max acc.2.1 ((tl.getD item ([], 0, [])).2.1 + 1), acc.2.2 ++ (tl.getD item ([], 0, [])).2.2)
def tnew (turns : List Nat) (tl : List T) (step : Nat) (items : List Nat) : T := items.foldl (tstep turns tl step) ([], 1, [])
def tolds (rules threes : List (List Nat)) (turns : List Nat) : Nat → List T
  | 0 => (List.range 4).map fun p => ([p], 0, threes.getD p [])
  | k + 1 => tolds rules threes turns k ++ [tnew turns (tolds rules threes turns k) k (rules.getD k [])]

theorem tolds_length (rules threes : List (List Nat)) (turns : List Nat) : ∀ k, (tolds rules threes turns k).length = 4 + k
  | 0 => by simp [tolds]
  | k + 1 => by rw [tolds, List.length_append, tolds_length rules threes turns k]; rfl

/-- the lists' lengths -/
def Small (B : Nat) (t : T) : Prop := t.1.length ≤ B ∧ t.2.2.length ≤ 3 * B
theorem getD_small {B : Nat} {tl : List T} (h : ∀ t ∈ tl, Small B t) (i : Nat) : Small B (tl.getD i ([], 0, [])) := by
  rw [List.getD_eq_getElem?_getD]
  cases q : tl[i]? with
  | none => exact ⟨Nat.zero_le _, Nat.zero_le _⟩
  | some t => exact h t (List.mem_of_getElem? q)
theorem tstep_small {turns : List Nat} {tl : List T} {step : Nat} {acc : T} {item B M : Nat} (hB : 1 ≤ B) (h : ∀ t ∈ tl, Small B t) (ha : Small M acc) : Small (M + B) (tstep turns tl step acc item) := by
  have hg := getD_small h item
  obtain ⟨a1, a2⟩ := ha
  obtain ⟨g1, g2⟩ := hg
  unfold tstep
  split
  · exact ⟨by simp only [List.length_append]; omega, by simp only [List.length_append]; omega⟩
  · exact ⟨by simp only [List.length_append, List.length_cons, List.length_nil]; omega, by simp only [List.length_append]; omega⟩
theorem tfold_small {turns : List Nat} {tl : List T} {step : Nat} {B : Nat} (hB : 1 ≤ B) (h : ∀ t ∈ tl, Small B t) : ∀ (items : List Nat) (acc : T) (M : Nat), Small M acc → Small (M + items.length * B) (items.foldl (tstep turns tl step) acc)
  | [], acc, M, ha => by simpa using ha
  | i :: r, acc, M, ha => by
    have := tfold_small (turns := turns) (step := step) hB h r _ _ (tstep_small (turns := turns) (step := step) (item := i) hB h ha)
    simp only [List.foldl_cons, List.length_cons]
    have e : M + B + r.length * B = M + (r.length + 1) * B := by rw [Nat.add_mul]; omega
    rw [← e]; exact this
theorem tolds_small {rules threes : List (List Nat)} {turns : List Nat} (h3 : ∀ l ∈ threes, l.length ≤ 3) (hr : ∀ l ∈ rules, l.length ≤ 2) : ∀ k, ∀ t ∈ tolds rules threes turns k, Small (2 ^ k) t
  | 0, t, ht => by
    simp only [tolds, List.mem_map, List.mem_range] at ht
    obtain ⟨p, hp, rfl⟩ := ht
    refine ⟨by simp, ?_⟩
    rw [List.getD_eq_getElem?_getD]
    cases q : threes[p]? with
    | none => simp
    | some l => simpa using h3 l (List.mem_of_getElem? q)
  | k + 1, t, ht => by
    have ih := tolds_small (turns := turns) h3 hr k
    have hB : 1 ≤ 2 ^ k := Nat.one_le_two_pow
    rw [tolds, List.mem_append, List.mem_singleton] at ht
    rcases ht with ht | rfl
    · obtain ⟨a, b⟩ := ih t ht
      refine ⟨?_, ?_⟩ <;> (rw [Nat.pow_succ]; omega)
    · have h2 : (rules.getD k []).length ≤ 2 := by
        rw [List.getD_eq_getElem?_getD]
        cases q : rules[k]? with
        | none => simp
        | some l => simpa using hr l (List.mem_of_getElem? q)
      obtain ⟨a, b⟩ := tfold_small (turns := turns) (step := k) hB ih (rules.getD k []) ([], 1, []) 0 ⟨Nat.le_refl _, Nat.zero_le _⟩
      have h3 : (rules.getD k []).length * 2 ^ k ≤ 2 * 2 ^ k := Nat.mul_le_mul_right _ h2
      refine ⟨?_, ?_⟩
      · show (tnew _ _ _ _).1.length ≤ _
        rw [Nat.pow_succ]; unfold tnew; omega
      · show (tnew _ _ _ _).2.2.length ≤ _
        rw [Nat.pow_succ]; unfold tnew; omega

theorem LD_get {l : List (List Nat)} {i : Nat} {x : List Nat} (h : l[i]? = some x) : (l.map fun x => D.list (iD x))[i]? = some (.list (iD x)) := by simp [h]
theorem iD_get {l : List Nat} {i : Nat} (h : i < l.length) : (iD l)[i]? = some (.int ((l.getD i 0 : Nat) : Int)) := by
  simp [iD, List.getD_eq_getElem?_getD, h]
theorem tD_get {tl : List T} {i : Nat} (h : i < tl.length) : (tl.map tD)[i]? = some (tD (tl.getD i ([], 0, []))) := by
  simp [List.getD_eq_getElem?_getD, h]
theorem tD_nom (t : T) : NoM (tD t) := ⟨iD_nom _, trivial, iD_nom _, trivial⟩

section
variable {C : Cx} {n : Nat}

abbrev xTold (C : Cx) (L : Addr) : Act := .fn C (callEnvC fdTold L 80)
abbrev tρ (rules : List (List Nat)) (turns : List Nat) (tl : List T) : Rho := [("told", .list (tl.map tD)), ("brought", LD rules), ("turns", .list (iD turns))]
abbrev iρ (rules : List (List Nat)) (turns : List Nat) (tl : List T) (step : Nat) (acc : T) : Rho :=
  ("behind", .list (iD acc.2.2)) :: ("depth", .int (acc.2.1 : Int)) :: ("left", .list (iD acc.1)) :: ("step", .int (step : Int)) :: tρ rules turns tl
abbrev toldFor : List Stmt := forBody (lastStm 1 (bodyOf (stm 14)))
abbrev toldInner : List Stmt := forBody (lastStm 3 toldFor)

theorem told_item (N : Names C) (L : Addr) (rules : List (List Nat)) (turns : List Nat) (tl : List T) (step item : Nat) (acc : T) (ht : turns.length = 8) (hs : step < 4) (htl : tl.length = 4 + step) (hi : item < 4 + step)
    (hB : ∀ t ∈ tl, Small 1000 t) (ha : Small 10000 acc) :
    Ex (xTold C L) n (("item", .int (item : Int)) :: iρ rules turns tl step acc) toldInner (.next (iρ rules turns tl step (tstep turns tl step acc item))) := by
  obtain ⟨a1, a2⟩ := ha
  obtain ⟨g1, g2⟩ := getD_small hB item
  have e4 : (4 : Int) + (step : Int) = ((4 + step : Nat) : Int) := by omega
  have t1 : ∀ {ρ : Rho} {p1 p2 p3 : Pos}, ρ.lookup (Str.ofString "turns") = some (.list (iD turns)) → ρ.lookup (Str.ofString "item") = some (.int (item : Int)) → Ev (xTold C L) n ρ (.Subscript (.Name "turns" p1) (.Name "item" p2) p3) (.int ((turns.getD item 0 : Nat) : Int)) :=
    fun h1 h2 => ev_item (k := (item : Int)) (Ev.name h1) (Ev.name h2) (by omega) (by rw [Int.toNat_natCast]; exact iD_get (by omega)) (by omega)
  have t2 : ∀ {ρ : Rho} {p1 p2 p3 p4 p5 : Pos}, ρ.lookup (Str.ofString "told") = some (.list (tl.map tD)) → ρ.lookup (Str.ofString "item") = some (.int (item : Int)) → Ev (xTold C L) n ρ (.Subscript (.Subscript (.Name "told" p1) (.Name "item" p2) p3) (.Constant (.int 0) 0 p4) p5) (.list (iD (tl.getD item ([], 0, [])).1)) :=
    fun h1 h2 => ev_item (k := 0) (ev_item (k := (item : Int)) (Ev.name h1) (Ev.name h2) (by omega) (by rw [Int.toNat_natCast]; exact tD_get (by omega)) (by omega)) Ev.int (by omega) rfl (by omega)
  have t3 : ∀ {ρ : Rho} {p1 p2 p3 p4 p5 : Pos}, ρ.lookup (Str.ofString "told") = some (.list (tl.map tD)) → ρ.lookup (Str.ofString "item") = some (.int (item : Int)) → Ev (xTold C L) n ρ (.Subscript (.Subscript (.Name "told" p1) (.Name "item" p2) p3) (.Constant (.int 1) 0 p4) p5) (.int ((tl.getD item ([], 0, [])).2.1 : Int)) :=
    fun h1 h2 => ev_item (k := 1) (ev_item (k := (item : Int)) (Ev.name h1) (Ev.name h2) (by omega) (by rw [Int.toNat_natCast]; exact tD_get (by omega)) (by omega)) Ev.int (by omega) rfl (by omega)
  have t4 : ∀ {ρ : Rho} {p1 p2 p3 p4 p5 : Pos}, ρ.lookup (Str.ofString "told") = some (.list (tl.map tD)) → ρ.lookup (Str.ofString "item") = some (.int (item : Int)) → Ev (xTold C L) n ρ (.Subscript (.Subscript (.Name "told" p1) (.Name "item" p2) p3) (.Constant (.int 2) 0 p4) p5) (.list (iD (tl.getD item ([], 0, [])).2.2)) :=
    fun h1 h2 => ev_item (k := 2) (ev_item (k := (item : Int)) (Ev.name h1) (Ev.name h2) (by omega) (by rw [Int.toNat_natCast]; exact tD_get (by omega)) (by omega)) Ev.int (by omega) rfl (by omega)
  have hcmp : decide (((turns.getD (4 + step) 0 : Nat) : Int) < ((turns.getD item 0 : Nat) : Int)) = decide (turns.getD (4 + step) 0 < turns.getD item 0) := by
    by_cases h : turns.getD (4 + step) 0 < turns.getD item 0
    · rw [decide_eq_true h, decide_eq_true (by omega)]
    · rw [decide_eq_false h, decide_eq_false (by omega)]
  have hmx : ∀ a b : Nat, max ((a : Nat) : Int) ((b : Nat) : Int) = ((max a b : Nat) : Int) := fun a b => by omega
  refine Ex.sub (Ex.cons (ρ' := ("depth", .int ((tstep turns tl step acc item).2.1 : Int)) :: ("left", .list (iD (tstep turns tl step acc item).1)) :: ("behind", .list (iD acc.2.2)) :: ("item", .int (item : Int)) :: ("step", .int (step : Int)) :: tρ rules turns tl) (Ex1.ite (c := decide (turns.getD (4 + step) 0 < turns.getD item 0)) ?_ ?_ ?_) (Ex.cons (Ex1.assign (d := .list (iD (tstep turns tl step acc item).2.2)) ?_ (.inl rfl) rfl) Ex.nil)) ?_
  · rw [← hcmp]
    refine Tr.cmp (t1 rfl rfl) (ev_item (k := ((4 + step : Nat) : Int)) (Ev.name rfl) (Ev.ieq (Ev.binop Ev.int (Ev.name rfl) op_add) e4) (by omega) (by rw [Int.toNat_natCast]; exact iD_get (by omega)) (by omega)) op_gt
  · intro hc
    have hc := of_decide_eq_true hc
    have q : tstep turns tl step acc item = (acc.1 ++ (tl.getD item ([], 0, [])).1, max acc.2.1 (tl.getD item ([], 0, [])).2.1, acc.2.2 ++ (tl.getD item ([], 0, [])).2.2) := by unfold tstep; rw [if_pos hc]
    rw [q]
    refine Ex.sub (Ex.cons (Ex1.assign (ev_addList (Ev.name rfl) (t2 rfl rfl) (by rw [iD_length, iD_length]; omega)) (.inl rfl) rfl) (Ex.cons (Ex1.assign (Ev.call (glB N.max_) (.inl ⟨_, rfl⟩) (Evs.cons (Ev.name rfl) (Evs.cons (t3 rfl rfl) Evs.nil)) fn_max2 (.inr rfl)) (.inl rfl) rfl) Ex.nil)) ?_
    exact .cons (by show _ = some (D.int _); rw [← hmx]; rfl) (.cons (by show _ = some (D.list (iD (_ ++ _))); rw [iD_append]; rfl) (.cons rfl (.cons rfl (.cons rfl (.cons rfl (.cons rfl (.cons rfl .nil)))))))
  · intro hc
    have hc := of_decide_eq_false hc
    have q : tstep turns tl step acc item = (acc.1 ++ [item], max acc.2.1 ((tl.getD item ([], 0, [])).2.1 + 1), acc.2.2 ++ (tl.getD item ([], 0, [])).2.2) := by unfold tstep; rw [if_neg hc]
    rw [q]
    refine Ex.sub (Ex.cons (Ex1.assign (ev_addList (Ev.name rfl) (Ev.list (ds := [.int (item : Int)]) (Evs.cons (Ev.name rfl) Evs.nil) (by simp)) (by simp [iD_length]; omega)) (.inl rfl) rfl) (Ex.cons (Ex1.assign (Ev.call (glB N.max_) (.inl ⟨_, rfl⟩) (Evs.cons (Ev.name rfl) (Evs.cons (Ev.binop (t3 rfl rfl) Ev.int op_add) Evs.nil)) fn_max2 (.inr rfl)) (.inl rfl) rfl) Ex.nil)) ?_
    exact .cons (by show _ = some (D.int _); rw [← hmx]; rfl) (.cons (by show _ = some (D.list (iD (_ ++ _))); rw [iD_append]; rfl) (.cons rfl (.cons rfl (.cons rfl (.cons rfl (.cons rfl (.cons rfl .nil)))))))
  · have q : (tstep turns tl step acc item).2.2 = acc.2.2 ++ (tl.getD item ([], 0, [])).2.2 := by unfold tstep; split <;> rfl
    rw [q, iD_append]
    exact ev_addList (Ev.name rfl) (t4 rfl rfl) (by rw [iD_length, iD_length]; omega)
  · exact .cons rfl (.cons rfl (.cons rfl (.cons rfl (.cons rfl (.cons rfl (.cons rfl .nil))))))

theorem told_step (N : Names C) (L : Addr) (rules : List (List Nat)) (turns : List Nat) (tl : List T) (step : Nat) (items : List Nat) (ht : turns.length = 8) (hs : step < 4) (htl : tl.length = 4 + step) (hr : rules[step]? = some items) (hit : ∀ i ∈ items, i < 4 + step) (hil : items.length ≤ 2)
    (hB : ∀ t ∈ tl, Small 1000 t) :
    Ex (xTold C L) n (("step", .int (step : Int)) :: tρ rules turns tl) toldFor (.next (tρ rules turns (tl ++ [tnew turns tl step items]))) := by
  refine Ex.cons (Ex1.assign (d := .list (iD [])) (Ev.list Evs.nil (by decide)) (.inl rfl) rfl) ?_
  refine Ex.cons (Ex1.assign (d := .int ((1 : Nat) : Int)) Ev.int (.inl rfl) rfl) ?_
  refine Ex.cons (Ex1.assign (d := .list (iD [])) (Ev.list Evs.nil (by decide)) (.inl rfl) rfl) ?_
  have hfs : ∀ j, Small 10000 ((items.take j).foldl (tstep turns tl step) ([], 1, [])) := fun j => by
    obtain ⟨a, b⟩ := tfold_small (turns := turns) (step := step) (B := 1000) (by omega) hB (items.take j) ([], 1, []) 0 ⟨Nat.le_refl _, Nat.zero_le _⟩
    have : (items.take j).length ≤ 2 := by rw [List.length_take]; omega
    exact ⟨by omega, by omega⟩
  refine Ex.cons (Ex1.for_ (ds := iD items) (fun j => iρ rules turns tl step ((items.take j).foldl (tstep turns tl step) ([], 1, []))) (It.list (ev_item (k := (step : Int)) (ds := rules.map fun x => D.list (iD x)) (Ev.name rfl) (Ev.name rfl) (by omega) (by rw [Int.toNat_natCast]; exact LD_get hr) (by omega)) rfl) ?_ (.inl rfl) ?_) ?_
  · exact .cons rfl (.cons rfl (.cons rfl (.cons rfl (.cons rfl (.cons rfl (.cons rfl .nil))))))
  · intro j d hd
    rw [iD, List.getElem?_map] at hd
    cases hq : items[j]? with
    | none => rw [hq] at hd; cases hd
    | some it =>
      rw [hq] at hd; cases hd
      have hst : (items.take (j + 1)).foldl (tstep turns tl step) ([], 1, []) = tstep turns tl step ((items.take j).foldl (tstep turns tl step) ([], 1, [])) it := by
        rw [List.take_add_one, hq, List.foldl_append]; rfl
      rw [hst]
      exact told_item N L rules turns tl step it _ ht hs htl (hit it (List.mem_of_getElem? hq)) hB (hfs j)
  · rw [iD_length, List.take_length]
    have hn := hfs items.length
    rw [List.take_length] at hn
    refine Ex.sub (Ex.cons (Ex1.assign (ev_addList (Ev.name rfl) (Ev.list (ds := [tD (tnew turns tl step items)]) (Evs.cons (Ev.list (Evs.cons (Ev.name rfl) (Evs.cons (Ev.name rfl) (Evs.cons (Ev.name rfl) Evs.nil))) (by simp)) Evs.nil) (by simp)) (by simp [htl]; omega)) (.inl rfl) rfl) Ex.nil) ?_
    exact .cons (by show _ = some (D.list ((tl ++ [_]).map tD)); rw [List.map_append]; rfl) (.cons rfl (.cons rfl .nil))

def gTold (threes : List (List Nat)) : D → List D
  | .int i => [tD ([i.toNat], 0, threes.getD i.toNat [])]
  | _ => []

theorem told_ok (N : Names C) (rules threes : List (List Nat)) (turns : List Nat) (ht : turns.length = 8) (hr4 : rules.length = 4) (hr2 : ∀ l ∈ rules, l.length ≤ 2) (h34 : threes.length = 4) (h3 : ∀ l ∈ threes, l.length ≤ 3)
    (hit : ∀ k l, rules[k]? = some l → ∀ i ∈ l, i < 4 + k) :
    FnOk C [] (n + 1) (.ref 80) [] [LD rules, LD threes, .list (iD turns)] [] (.list ((tolds rules threes turns 4).map tD)) := by
  refine fn_ok (ρ₀ := [("brought", LD rules), ("threes", LD threes), ("turns", .list (iD turns))]) N.told.2 (show ([Str.ofString "brought", Str.ofString "threes", Str.ofString "turns"]).Nodup by decide +kernel) (fun L p hp => ?_) ?_ fun L => ?_
  · rcases List.mem_cons.mp hp with rfl | hp
    · exact .inl rfl
    rcases List.mem_cons.mp hp with rfl | hp
    · exact .inr ⟨rfl, rfl⟩
    · rw [List.mem_singleton.mp hp]; exact .inl rfl
  · intro A s vs us E Q rv ru hC hQ
    obtain ⟨a, ws, rfl, r0, rv⟩ := rv.cons'
    obtain ⟨b, c, rfl, r1, r2⟩ := rv.two
    cases ru
    exact wpAny_of_eq (show bindArgs fdTold ⟨[a, b, c], []⟩ = pure [(Str.ofString "brought", a), (Str.ofString "threes", b), (Str.ofString "turns", c)] from rfl) (hQ _ s (.refl s) (.cons r0 (.cons r1 (.cons r2 .nil))))
  have hsm := tolds_small (turns := turns) h3 hr2
  have hg0 : ((List.range 4).map fun (i : Nat) => D.int (i : Int)).flatMap (gTold threes) = (tolds rules threes turns 0).map tD := rfl
  refine Ex.cons (ρ' := ("told", .list ((tolds rules threes turns 0).map tD)) :: [("brought", LD rules), ("threes", LD threes), ("turns", .list (iD turns))]) ?_ ?_
  · rw [← hg0]
    refine ex_assignComp [(Str.ofString "threes", L + 1)] (gTold threes) rfl (sees1 rfl (List.mem_singleton.mpr rfl) rfl rfl rfl rfl ?_ rfl (by decide +kernel) (by decide +kernel)) rfl (it_range1 4 (glB N.range_) Ev.int (by omega)) ?_ rfl rfl ?_ ?_ ?_ (.inl rfl)
    · show NoMs _
      refine .of fun d hd => ?_
      obtain ⟨x, _, rfl⟩ := List.mem_map.mp hd
      exact iD_nom x
    · exact .of fun d hd => by obtain ⟨x, _, rfl⟩ := List.mem_map.mp hd; trivial
    · intro d hd
      obtain ⟨x, _, rfl⟩ := List.mem_map.mp hd
      exact ⟨tD_nom _, trivial⟩
    · rw [hg0]; simp [tolds]
    · intro c l d hd
      obtain ⟨p, hp, rfl⟩ := List.mem_map.mp hd
      rw [List.mem_range] at hp
      refine ⟨true, Tests.nil, fun _ => ⟨_, rfl, ?_⟩, fun h => by cases h⟩
      have hq : threes[p]? = some (threes.getD p []) := by
        simp [List.getD_eq_getElem?_getD, h34, hp]
      refine Ev.list (Evs.cons (Ev.list (Evs.cons (Ev.name rfl) Evs.nil) (by simp [iD])) (Evs.cons Ev.int (Evs.cons (ev_item (k := (p : Int)) (ds := threes.map fun x => D.list (iD x)) (Ev.name rfl) (Ev.name rfl) (by omega) (by rw [Int.toNat_natCast]; exact LD_get hq) (by omega)) Evs.nil))) (by simp)
  · refine Ex.cons (Ex1.for_ (ds := (List.range 4).map fun (i : Nat) => D.int (i : Int)) (fun i => tρ rules turns (tolds rules threes turns i)) (it_range1 4 (glB N.range_) Ev.int (by omega)) ?_ (.inl rfl) ?_) ?_
    · exact .cons rfl (.cons rfl (.cons rfl .nil))
    · intro i d hd
      rw [List.getElem?_map] at hd
      by_cases hi : i < 4
      · rw [List.getElem?_range hi] at hd
        cases hd
        have hq : rules[i]? = some (rules.getD i []) := by
          simp [List.getD_eq_getElem?_getD, hr4, hi]
        refine told_step N L rules turns _ i (rules.getD i []) ht hi (tolds_length _ _ _ i) hq (hit i _ hq) (hr2 _ (List.mem_of_getElem? hq)) fun t ht => ?_
        obtain ⟨a, b⟩ := hsm i t ht
        have : 2 ^ i ≤ 2 ^ 4 := Nat.pow_le_pow_right (by omega) (by omega)
        exact ⟨by omega, by omega⟩
      · rw [List.getElem?_eq_none (by rw [List.length_range]; omega)] at hd; cases hd
    · exact Ex.stop (Ex1.ret (Ev.name rfl))
end
end Mine

namespace Mine

abbrev d0 : T := ([], 0, [])
section
variable {R Th : List (List Nat)} {turns : List Nat}

theorem tolds_prefix (k j x : Nat) (hx : x < 4 + k) : (tolds R Th turns (k + j)).getD x d0 = (tolds R Th turns k).getD x d0 := by
  induction j with
  | zero => rfl
  | succ j ih =>
    rw [← ih, ← Nat.add_assoc, tolds, List.getD_eq_getElem?_getD, List.getElem?_append_left (by rw [tolds_length]; omega), ← List.getD_eq_getElem?_getD]

/-- what is told of the thing x -/
def tk (R Th : List (List Nat)) (turns : List Nat) (x : Nat) : T := (tolds R Th turns 4).getD x d0

theorem tk_low {x : Nat} (hx : x < 4) : tk R Th turns x = ([x], 0, Th.getD x []) := by
  have := tolds_prefix (R := R) (Th := Th) (turns := turns) 0 4 x (by omega)
  unfold tk
  rw [show (4 : Nat) = 0 + 4 from rfl, this]
  simp [tolds, List.getD_eq_getElem?_getD, hx]
theorem tk_at {q x : Nat} (hq : q ≤ 4) (hx : x < 4 + q) : (tolds R Th turns q).getD x d0 = tk R Th turns x := by
  have := tolds_prefix (R := R) (Th := Th) (turns := turns) q (4 - q) x hx
  rw [show q + (4 - q) = 4 by omega] at this
  exact this.symm
theorem tk_high {q : Nat} (hq : q < 4) : tk R Th turns (4 + q) = (R.getD q []).foldl (tstep turns (tolds R Th turns q) q) ([], 1, []) := by
  rw [← tk_at (R := R) (Th := Th) (turns := turns) (q := q + 1) (by omega) (by omega), tolds, List.getD_eq_getElem?_getD, List.getElem?_append_right (by rw [tolds_length]; omega), tolds_length]
  simp [tnew]

/-- whether the turn of x comes behind that of the name q -/
def later (turns : List Nat) (q x : Nat) : Bool := decide (turns.getD (4 + q) 0 < turns.getD x 0)

theorem fold_parts {q : Nat} (hq : q < 4) : ∀ (items : List Nat) (acc : T), (∀ x ∈ items, x < 4 + q) →
    (items.foldl (tstep turns (tolds R Th turns q) q) acc).1 = acc.1 ++ items.flatMap (fun x => if later turns q x then (tk R Th turns x).1 else [x]) ∧
    (∀ i, i < (items.foldl (tstep turns (tolds R Th turns q) q) acc).2.1 ↔ i < acc.2.1 ∨ ∃ x ∈ items, if later turns q x then i < (tk R Th turns x).2.1 else i < (tk R Th turns x).2.1 + 1) ∧
    (items.foldl (tstep turns (tolds R Th turns q) q) acc).2.2 = acc.2.2 ++ items.flatMap (fun x => (tk R Th turns x).2.2)
  | [], acc, _ => by simp
  | x :: r, acc, h => by
    have hx := h x (.head _)
    have ih := fold_parts hq r (tstep turns (tolds R Th turns q) q acc x) fun y hy => h y (.tail _ hy)
    have e := tk_at (R := R) (Th := Th) (turns := turns) (q := q) (x := x) (by omega) hx
    simp only [List.foldl_cons, List.flatMap_cons]
    rw [ih.1, ih.2.2]
    by_cases hl : turns.getD (4 + q) 0 < turns.getD x 0
    · have hl' : later turns q x = true := decide_eq_true hl
      refine ⟨?_, fun i => ?_, ?_⟩
      · simp only [tstep, if_pos hl, e, hl', if_true, List.append_assoc]
      · rw [ih.2.1 i]
        simp only [tstep, if_pos hl, e, List.mem_cons, exists_eq_or_imp, hl', if_true]
        rw [← or_assoc]
        refine or_congr ?_ Iff.rfl
        omega
      · simp only [tstep, if_pos hl, e, List.append_assoc]
    · have hl' : later turns q x = false := decide_eq_false hl
      refine ⟨?_, fun i => ?_, ?_⟩
      · simp only [tstep, if_neg hl, hl', Bool.false_eq_true, if_false, List.append_assoc]
      · rw [ih.2.1 i]
        simp only [tstep, if_neg hl, e, List.mem_cons, exists_eq_or_imp, hl', Bool.false_eq_true, if_false]
        rw [← or_assoc]
        refine or_congr ?_ Iff.rfl
        omega
      · simp only [tstep, if_neg hl, e, List.append_assoc]

variable (hit : ∀ q, q < 4 → ∀ x ∈ R.getD q [], x < 4 + q)
include hit
theorem tk_left {q : Nat} (hq : q < 4) : (tk R Th turns (4 + q)).1 = (R.getD q []).flatMap (fun x => if later turns q x then (tk R Th turns x).1 else [x]) := by
  rw [tk_high hq, (fold_parts hq _ _ (hit q hq)).1]; rfl
theorem tk_depth {q : Nat} (hq : q < 4) (i : Nat) : i < (tk R Th turns (4 + q)).2.1 ↔ i < 1 ∨ ∃ x ∈ R.getD q [], if later turns q x then i < (tk R Th turns x).2.1 else i < (tk R Th turns x).2.1 + 1 := by
  rw [tk_high hq]
  exact (fold_parts hq _ _ (hit q hq)).2.1 i
theorem tk_behind {q : Nat} (hq : q < 4) : (tk R Th turns (4 + q)).2.2 = (R.getD q []).flatMap (fun x => (tk R Th turns x).2.2) := by
  rw [tk_high hq, (fold_parts hq _ _ (hit q hq)).2.2]; rfl
end

theorem fm_congr {f g : Nat → List Nat} : ∀ {l : List Nat}, (∀ x ∈ l, f x = g x) → l.flatMap f = l.flatMap g
  | [], _ => rfl
  | a :: l, h => by simp only [List.flatMap_cons]; rw [h a (.head _), fm_congr fun x hx => h x (.tail _ hx)]

/-- the name q gives way to r -/
def subst (q : Nat) (r ts : List Nat) : List Nat := ts.flatMap fun t => if t = 4 + q then r else [t]
theorem subst_append (q : Nat) (r a b : List Nat) : subst q r (a ++ b) = subst q r a ++ subst q r b := by simp [subst]
def runL (R : List (List Nat)) (qs ts : List Nat) : List Nat := qs.foldl (fun ts q => subst q (R.getD q []) ts) ts
theorem runL_append (R : List (List Nat)) (qs : List Nat) : ∀ a b, runL R qs (a ++ b) = runL R qs a ++ runL R qs b := by
  induction qs with
  | nil => intro a b; rfl
  | cons q qs ih => intro a b; simp only [runL, List.foldl_cons] at ih ⊢; rw [subst_append, ih]
theorem runL_flatMap (R : List (List Nat)) (qs : List Nat) (f : Nat → List Nat) : ∀ l : List Nat, runL R qs (l.flatMap f) = l.flatMap fun x => runL R qs (f x)
  | [] => by
    simp only [List.flatMap_nil]
    induction qs with
    | nil => rfl
    | cons q qs ih => simpa [runL, subst] using ih
  | x :: l => by simp only [List.flatMap_cons]; rw [runL_append, runL_flatMap R qs f l]
theorem runL_cat (R : List (List Nat)) (a b ts : List Nat) : runL R (a ++ b) ts = runL R b (runL R a ts) := by simp [runL, List.foldl_append]
theorem runL_free (R : List (List Nat)) {t : Nat} : ∀ (qs : List Nat), (∀ q ∈ qs, t ≠ 4 + q) → runL R qs [t] = [t]
  | [], _ => rfl
  | q :: qs, h => by
    have h1 : subst q (R.getD q []) [t] = [t] := by simp [subst, h q (.head _)]
    simp only [runL, List.foldl_cons] at *
    rw [h1]
    exact runL_free R qs fun p hp => h p (.tail _ hp)

/-- the facts of an order of turns -/
structure Seq (seq turns : List Nat) : Prop where
  len : turns.length = 8
  low : ∀ x, x < 4 → turns.getD x 0 = 4
  pos : ∀ q, q < 4 → turns.getD (4 + q) 0 < 4
  gone : ∀ q, q < 4 → ∀ j, j ≤ 4 → turns.getD (4 + q) 0 < j → q ∉ seq.drop j
  here : ∀ q, q < 4 → ∀ j, j ≤ turns.getD (4 + q) 0 → seq.drop j = (seq.drop j).take (turns.getD (4 + q) 0 - j) ++ q :: seq.drop (turns.getD (4 + q) 0 + 1) ∧ q ∉ (seq.drop j).take (turns.getD (4 + q) 0 - j)
  small : ∀ q ∈ seq, q < 4
  four : seq.length = 4

section
variable {R Th : List (List Nat)} {seq turns : List Nat} (Q : Seq seq turns) (hit : ∀ q, q < 4 → ∀ x ∈ R.getD q [], x < 4 + q)
include Q
theorem run_low {x j : Nat} (hx : x < 4) : runL R (seq.drop j) [x] = [x] := runL_free R _ fun q hq => by omega
theorem run_gone {q j : Nat} (hq : q < 4) (hj : j ≤ 4) (h : turns.getD (4 + q) 0 < j) : runL R (seq.drop j) [4 + q] = [4 + q] :=
  runL_free R _ fun p hp => by
    have := Q.gone q hq j hj h
    intro e
    exact this ((by omega : p = q) ▸ hp)
theorem run_here {q j : Nat} (hq : q < 4) (hj : j ≤ turns.getD (4 + q) 0) : runL R (seq.drop j) [4 + q] = runL R (seq.drop (turns.getD (4 + q) 0 + 1)) (R.getD q []) := by
  obtain ⟨h1, h2⟩ := Q.here q hq j hj
  rw [h1, runL_cat, runL_free R (t := 4 + q) _ (fun p hp e => h2 (by rw [show q = p by omega]; rw [show q = p by omega] at hp; exact hp))]
  show runL R (seq.drop (turns.getD (4 + q) 0 + 1)) (subst q (R.getD q []) [4 + q]) = _
  simp [subst]

include hit
/-- (A): what one run makes of a thing -/
theorem run_left : ∀ x, x < 8 → runL R seq [x] = (tk R Th turns x).1 := by
  have main : ∀ q, q < 4 → (∀ x, x < 4 + q → runL R seq [x] = (tk R Th turns x).1) → runL R seq [4 + q] = (tk R Th turns (4 + q)).1 := by
    intro q hq ih
    have h0 := run_here (R := R) Q hq (Nat.zero_le (turns.getD (4 + q) 0))
    rw [List.drop_zero] at h0
    rw [h0, tk_left hit hq]
    have e : R.getD q [] = (R.getD q []).flatMap fun x => [x] := by simp
    conv => lhs; rw [e]
    rw [runL_flatMap]
    have hp := Q.pos q hq
    have key : ∀ x ∈ R.getD q [], runL R (seq.drop (turns.getD (4 + q) 0 + 1)) [x] = if later turns q x then (tk R Th turns x).1 else [x] := by
      intro x hx
      have hlt := hit q hq x hx
      by_cases h4 : x < 4
      · have hl : later turns q x = true := decide_eq_true (by rw [Q.low x h4]; exact hp)
        rw [hl, run_low Q h4, tk_low h4]; rfl
      · obtain ⟨p, rfl⟩ : ∃ p, x = 4 + p := ⟨x - 4, by omega⟩
        have hp4 : p < 4 := by omega
        by_cases hc : turns.getD (4 + q) 0 < turns.getD (4 + p) 0
        · have hl : later turns q (4 + p) = true := decide_eq_true hc
          rw [hl, if_pos rfl, ← ih (4 + p) hlt, run_here Q hp4 hc]
          have h1 := run_here (R := R) Q hp4 (Nat.zero_le (turns.getD (4 + p) 0))
          rw [List.drop_zero] at h1
          rw [h1]
        · have hl : later turns q (4 + p) = false := decide_eq_false hc
          rw [hl]
          exact run_gone Q hp4 (by omega) (by omega)
    exact fm_congr key
  have low : ∀ x, x < 4 → runL R seq [x] = (tk R Th turns x).1 := fun x hx => by
    have := run_low (R := R) (j := 0) Q hx
    rw [List.drop_zero] at this
    rw [this, tk_low hx]
  have h0 := main 0 (by omega) fun x hx => low x (by omega)
  have h1 := main 1 (by omega) fun x hx => by rcases Nat.lt_or_ge x 4 with h | h; exact low x h; rw [show x = 4 + 0 by omega]; exact h0
  have h2 := main 2 (by omega) fun x hx => by
    rcases Nat.lt_or_ge x 4 with h | h
    · exact low x h
    · rcases (by omega : x = 4 + 0 ∨ x = 4 + 1) with rfl | rfl
      · exact h0
      · exact h1
  have h3 := main 3 (by omega) fun x hx => by
    rcases Nat.lt_or_ge x 4 with h | h
    · exact low x h
    · rcases (by omega : x = 4 + 0 ∨ x = 4 + 1 ∨ x = 4 + 2) with rfl | rfl | rfl
      · exact h0
      · exact h1
      · exact h2
  intro x hx
  rcases Nat.lt_or_ge x 4 with h | h
  · exact low x h
  · rcases (by omega : x = 4 + 0 ∨ x = 4 + 1 ∨ x = 4 + 2 ∨ x = 4 + 3) with rfl | rfl | rfl | rfl
    · exact h0
    · exact h1
    · exact h2
    · exact h3
end
end Mine

namespace Mine

def nc (q : Nat) : Nat := [33, 35, 36, 37].getD q 0
theorem nc_inj {p q : Nat} (hp : p < 4) (hq : q < 4) (h : nc p = nc q) : p = q := by
  have : ∀ a b : Fin 4, nc a = nc b → a = b := by decide +kernel
  have := this ⟨p, hp⟩ ⟨q, hq⟩ h
  exact congrArg (fun x : Fin 4 => (x : Nat)) this
theorem nc_lt {q : Nat} (hq : q < 4) : 33 ≤ nc q ∧ nc q < 43 := by
  have : ∀ a : Fin 4, 33 ≤ nc a ∧ nc a < 43 := by decide +kernel
  exact this ⟨q, hq⟩

def render (W : List (List Nat)) (ts : List Nat) : List Nat := ts.flatMap fun x => W.getD x []
theorem render_append (W : List (List Nat)) (a b : List Nat) : render W (a ++ b) = render W a ++ render W b := by simp [render]

/-- a script's parts -/
structure Parts (R Th W : List (List Nat)) (seq turns : List Nat) : Prop where
  sq : Seq seq turns
  hit : ∀ q, q < 4 → ∀ x ∈ R.getD q [], x < 4 + q
  two : ∀ q, q < 4 → (R.getD q []).length = 2
  r4 : R.length = 4
  t4 : Th.length = 4
  th3 : ∀ x, x < 4 → (Th.getD x []).length = 3
  oct : ∀ x, x < 4 → ∀ b ∈ Th.getD x [], b < 256
  wl : W.length = 8
  low : ∀ x, x < 4 → W.getD x [] = signs (Th.getD x [])
  high : ∀ q, q < 4 → W.getD (4 + q) [] = [nc q]

def runI (R : List (List Nat)) (seq : List Nat) : Nat → List Nat → List Nat
  | 0, ts => ts
  | i + 1, ts => runL R seq (runI R seq i ts)
theorem runI_succ (R : List (List Nat)) (seq : List Nat) : ∀ i ts, runI R seq (i + 1) ts = runI R seq i (runL R seq ts)
  | 0, _ => rfl
  | i + 1, ts => by rw [runI, runI_succ R seq i ts, runI]
theorem runI_flatMap (R : List (List Nat)) (seq : List Nat) (f : Nat → List Nat) : ∀ i (l : List Nat), runI R seq i (l.flatMap f) = l.flatMap fun x => runI R seq i (f x)
  | 0, _ => rfl
  | i + 1, l => by rw [runI_succ, runL_flatMap, runI_flatMap R seq _ i l]; exact fm_congr fun x _ => (runI_succ R seq i _).symm

def Has (ts : List Nat) : Prop := ∃ t ∈ ts, 4 ≤ t
theorem has_flatMap {f : Nat → List Nat} {l : List Nat} : Has (l.flatMap f) ↔ ∃ x ∈ l, Has (f x) := by
  constructor
  · rintro ⟨t, ht, h4⟩
    obtain ⟨x, hx, hm⟩ := List.mem_flatMap.mp ht
    exact ⟨x, hx, t, hm, h4⟩
  · rintro ⟨x, hx, t, hm, h4⟩
    exact ⟨t, List.mem_flatMap.mpr ⟨x, hx, hm⟩, h4⟩
theorem has_append {a b : List Nat} : Has (a ++ b) ↔ Has a ∨ Has b := by
  constructor
  · rintro ⟨t, ht, h4⟩
    rcases List.mem_append.mp ht with h | h
    · exact .inl ⟨t, h, h4⟩
    · exact .inr ⟨t, h, h4⟩
  · rintro (⟨t, ht, h4⟩ | ⟨t, ht, h4⟩)
    · exact ⟨t, List.mem_append_left _ ht, h4⟩
    · exact ⟨t, List.mem_append_right _ ht, h4⟩

theorem by_q {P : Nat → Prop} (low : ∀ x, x < 4 → P x) (main : ∀ q, q < 4 → (∀ x, x < 4 + q → P x) → P (4 + q)) : ∀ x, x < 8 → P x := by
  intro x
  induction x using Nat.strongRecOn with
  | ind x ih =>
    intro hx
    rcases Nat.lt_or_ge x 4 with h | h
    · exact low x h
    · obtain ⟨q, rfl⟩ : ∃ q, x = 4 + q := ⟨x - 4, by omega⟩
      exact main q (by omega) fun y hy => ih y hy (by omega)

section
variable {R Th W : List (List Nat)} {seq turns : List Nat} (P : Parts R Th W seq turns)
include P

theorem runI_low {x : Nat} (hx : x < 4) : ∀ i, runI R seq i [x] = [x]
  | 0 => rfl
  | i + 1 => by
    have := run_low (R := R) (j := 0) P.sq hx
    rw [List.drop_zero] at this
    rw [runI, runI_low hx i, this]

/-- (B): a name is left if and only if the calls are too few -/
theorem has_depth : ∀ x, x < 8 → ∀ i, Has (runI R seq i [x]) ↔ i < (tk R Th turns x).2.1 := by
  refine by_q (fun x hx i => ?_) fun q hq ih i => ?_
  · rw [runI_low P hx, tk_low hx]
    constructor
    · rintro ⟨t, ht, h4⟩
      rw [List.mem_singleton.mp ht] at h4; omega
    · intro h; exact absurd h (Nat.not_lt_zero _)
  · rw [tk_depth P.hit hq]
    cases i with
    | zero => exact ⟨fun _ => .inl (by omega), fun _ => ⟨4 + q, List.mem_singleton.mpr rfl, by omega⟩⟩
    | succ i =>
      rw [runI_succ, run_left P.sq P.hit _ (by omega : 4 + q < 8) (Th := Th), tk_left P.hit hq, runI_flatMap, has_flatMap]
      constructor
      · rintro ⟨x, hx, h⟩
        refine .inr ⟨x, hx, ?_⟩
        have hlt := P.hit q hq x hx
        cases hl : later turns q x with
        | true =>
          rw [hl] at h
          simp only [if_true] at h ⊢
          rw [← run_left P.sq P.hit _ (by omega : x < 8) (Th := Th), ← runI_succ] at h
          exact (ih x hlt (i + 1)).mp h
        | false =>
          rw [hl] at h
          simp only [Bool.false_eq_true, if_false] at h ⊢
          have := (ih x hlt i).mp h
          omega
      · rintro (h | ⟨x, hx, h⟩)
        · omega
        · refine ⟨x, hx, ?_⟩
          have hlt := P.hit q hq x hx
          cases hl : later turns q x with
          | true =>
            rw [hl] at h
            simp only [if_true] at h ⊢
            rw [← run_left P.sq P.hit _ (by omega : x < 8) (Th := Th), ← runI_succ]
            exact (ih x hlt (i + 1)).mpr h
          | false =>
            rw [hl] at h
            simp only [Bool.false_eq_true, if_false] at h ⊢
            exact (ih x hlt i).mpr (by omega)

/-- the octets behind are kept -/
theorem behind_subst {q : Nat} (hq : q < 4) (ts : List Nat) : (subst q (R.getD q []) ts).flatMap (fun x => (tk R Th turns x).2.2) = ts.flatMap fun x => (tk R Th turns x).2.2 := by
  unfold subst
  rw [List.flatMap_assoc]
  refine fm_congr fun t _ => ?_
  by_cases h : t = 4 + q
  · subst h
    rw [if_pos rfl, tk_behind P.hit hq]
  · rw [if_neg h]; simp
theorem behind_runL : ∀ (qs : List Nat) (ts : List Nat), (∀ q ∈ qs, q < 4) → (runL R qs ts).flatMap (fun x => (tk R Th turns x).2.2) = ts.flatMap fun x => (tk R Th turns x).2.2
  | [], _, _ => rfl
  | q :: qs, ts, h => by
    have := behind_runL qs (subst q (R.getD q []) ts) fun p hp => h p (.tail _ hp)
    simp only [runL, List.foldl_cons] at this ⊢
    rw [this, behind_subst P (h q (.head _))]
theorem behind_runI : ∀ i (ts : List Nat), (runI R seq i ts).flatMap (fun x => (tk R Th turns x).2.2) = ts.flatMap fun x => (tk R Th turns x).2.2
  | 0, _ => rfl
  | i + 1, ts => by rw [runI, behind_runL P _ _ P.sq.small, behind_runI i ts]

theorem behind_len : ∀ x, x < 8 → 3 ≤ (tk R Th turns x).2.2.length ∧ (tk R Th turns x).2.2.length % 3 = 0 ∧ ∀ b ∈ (tk R Th turns x).2.2, b < 256 := by
  refine by_q (fun x hx => ?_) fun q hq ih => ?_
  · rw [tk_low hx]
    have := P.th3 x hx
    exact ⟨by simp only; omega, by simp only; omega, P.oct x hx⟩
  · rw [tk_behind P.hit hq]
    have h2 := P.two q hq
    have hm := P.hit q hq
    match hR : R.getD q [], h2, hm with
    | [a, b], _, hm =>
      obtain ⟨a1, a2, a3⟩ := ih a (hm a (.head _))
      obtain ⟨b1, b2, b3⟩ := ih b (hm b (.tail _ (.head _)))
      simp only [List.flatMap_cons, List.flatMap_nil, List.append_nil, List.length_append, List.mem_append]
      exact ⟨by omega, by omega, fun x hx => hx.elim (a3 x) (b3 x)⟩
theorem behind_le (x : Nat) : (tk R Th turns x).2.2.length ≤ 48 ∧ (tk R Th turns x).1.length ≤ 16 := by
  have h3 : ∀ l ∈ Th, l.length ≤ 3 := fun l hl => by
    obtain ⟨i, hi, e⟩ := List.getElem_of_mem hl
    have := P.th3 i (by rw [← P.t4]; exact hi)
    rw [List.getD_eq_getElem?_getD, List.getElem?_eq_getElem hi, e] at this
    simp at this; omega
  have h2 : ∀ l ∈ R, l.length ≤ 2 := fun l hl => by
    obtain ⟨i, hi, e⟩ := List.getElem_of_mem hl
    have := P.two i (by rw [← P.r4]; exact hi)
    rw [List.getD_eq_getElem?_getD, List.getElem?_eq_getElem hi, e] at this
    simp at this; omega
  have := getD_small (tolds_small (turns := turns) h3 h2 4) x
  exact ⟨this.2, this.1⟩

def Tok (ts : List Nat) : Prop := ∀ t ∈ ts, t < 8
theorem tok_runL : ∀ (qs : List Nat) (ts : List Nat), (∀ q ∈ qs, q < 4) → Tok ts → Tok (runL R qs ts)
  | [], _, _, h => h
  | q :: qs, ts, hq, h => by
    refine tok_runL qs (subst q (R.getD q []) ts) (fun p hp => hq p (.tail _ hp)) fun t ht => ?_
    obtain ⟨x, hx, hm⟩ := List.mem_flatMap.mp ht
    split at hm
    · have := P.hit q (hq q (.head _)) t hm
      have := hq q (.head _)
      omega
    · rw [List.mem_singleton.mp hm]; exact h x hx
theorem tok_runI : ∀ i (ts : List Nat), Tok ts → Tok (runI R seq i ts)
  | 0, _, h => h
  | i + 1, ts, h => tok_runL P _ _ P.sq.small (tok_runI i ts h)

theorem count_le (ts : List Nat) (h : Tok ts) : 3 * ts.length ≤ (ts.flatMap fun x => (tk R Th turns x).2.2).length := by
  induction ts with
  | nil => simp
  | cons t ts ih =>
    have h1 := (behind_len P t (h t (.head _))).1
    have h2 := ih fun x hx => h x (.tail _ hx)
    simp only [List.flatMap_cons, List.length_append, List.length_cons]; omega

theorem word_len {x : Nat} (hx : x < 8) : (W.getD x []).length ≤ 4 := by
  rcases Nat.lt_or_ge x 4 with h | h
  · rw [P.low x h]
    have e := P.th3 x h
    match hT : Th.getD x [], e with
    | [a, b, c], _ => simp [signs]
  · obtain ⟨q, rfl⟩ : ∃ q, x = 4 + q := ⟨x - 4, by omega⟩
    rw [P.high q (by omega)]; simp
theorem render_len (ts : List Nat) (h : Tok ts) : (render W ts).length ≤ 4 * ts.length := by
  induction ts with
  | nil => simp [render]
  | cons t ts ih =>
    have h1 := word_len P (h t (.head _))
    have h2 := ih fun x hx => h x (.tail _ hx)
    simp only [render, List.flatMap_cons, List.length_append, List.length_cons] at h2 ⊢; omega

theorem word_free {x q : Nat} (hx : x < 8) (hq : q < 4) (hne : x ≠ 4 + q) : nc q ∉ W.getD x [] := by
  rcases Nat.lt_or_ge x 4 with h | h
  · rw [P.low x h]
    intro hm
    have := signs_lt _ (P.oct x h) _ hm
    have := nc_lt hq
    omega
  · obtain ⟨p, rfl⟩ : ∃ p, x = 4 + p := ⟨x - 4, by omega⟩
    rw [P.high p (by omega), List.mem_singleton]
    intro e
    exact hne (by rw [nc_inj hq (by omega) e])

theorem rep_render {q : Nat} (hq : q < 4) : ∀ ts, Tok ts → rep (nc q) (render W (R.getD q [])) (render W ts) = render W (subst q (R.getD q []) ts)
  | [], _ => rfl
  | t :: ts, h => by
    have ih := rep_render hq ts fun x hx => h x (.tail _ hx)
    have e1 : render W (t :: ts) = W.getD t [] ++ render W ts := rfl
    have e2 : subst q (R.getD q []) (t :: ts) = (if t = 4 + q then R.getD q [] else [t]) ++ subst q (R.getD q []) ts := rfl
    rw [e1, e2, rep_append, render_append, ih]
    congr 1
    by_cases ht : t = 4 + q
    · subst ht
      rw [if_pos rfl, P.high q hq, rep_one]
    · rw [if_neg ht, rep_free (word_free P (h t (.head _)) hq ht)]
      simp [render]

def pairsOf (R W : List (List Nat)) (qs : List Nat) : List (Nat × List Nat) := qs.map fun q => (nc q, render W (R.getD q []))
theorem repAll_render : ∀ (qs : List Nat) (ts sfx : List Nat), (∀ q ∈ qs, q < 4) → Tok ts → (∀ q, q < 4 → nc q ∉ sfx) → repAll (pairsOf R W qs) (render W ts ++ sfx) = render W (runL R qs ts) ++ sfx
  | [], _, _, _, _, _ => rfl
  | q :: qs, ts, sfx, hq, h, hs => by
    have hq4 := hq q (.head _)
    have htok : Tok (subst q (R.getD q []) ts) := tok_runL P [q] ts (fun p hp => by rw [List.mem_singleton.mp hp]; exact hq4) h
    have ih := repAll_render qs (subst q (R.getD q []) ts) sfx (fun p hp => hq p (.tail _ hp)) htok hs
    show repAll (pairsOf R W qs) (rep (nc q) (render W (R.getD q [])) (render W ts ++ sfx)) = _
    rw [rep_append, rep_render P hq4 ts h, rep_free (hs q hq4), ih]
    rfl

theorem mem_render {q : Nat} (hq : q < 4) (ts : List Nat) (h : Tok ts) : nc q ∈ render W ts ↔ 4 + q ∈ ts := by
  unfold render
  rw [List.mem_flatMap]
  constructor
  · rintro ⟨x, hx, hm⟩
    by_cases e : x = 4 + q
    · rw [← e]; exact hx
    · exact absurd hm (word_free P (h x hx) hq e)
  · intro hm
    exact ⟨_, hm, by rw [P.high q hq]; exact List.mem_singleton.mpr rfl⟩

/-- (C): with no name left the text is what the octets are written as -/
theorem render_signs (us : List Nat) (h : Tok us) (hn : ¬ Has us) : render W us = signs (us.flatMap fun x => (tk R Th turns x).2.2) := by
  induction us with
  | nil => rfl
  | cons t us ih =>
    have h4 : t < 4 := by
      rcases Nat.lt_or_ge t 4 with q | q
      · exact q
      · exact absurd ⟨t, .head _, q⟩ hn
    have ih' := ih (fun x hx => h x (.tail _ hx)) fun ⟨x, hx, q⟩ => hn ⟨x, .tail _ hx, q⟩
    have e1 : render W (t :: us) = W.getD t [] ++ render W us := rfl
    rw [e1, List.flatMap_cons, signs_append (behind_len P t (by omega)).2.1, ih', P.low t h4, tk_low h4]
end
end Mine

namespace Mine

/-- the three octets of a number -/
def tr (n : Int) : List Nat := [((n.fdiv 16).fmod 256).toNat, ((n.fdiv 4096).fmod 256).toNat, (n.fmod 256).toNat]
def pickName (k w : Nat) : Nat := if w < k then 4 + w else k
/-- what the name k stands for -/
def rl (k : Nat) (n : Int) : List Nat := [pickName k (n.fmod ((k : Int) + 1)).toNat, pickName k ((n.fdiv 4).fmod ((k : Int) + 1)).toNat]
def ranksOf (seq : List Nat) : List Nat := [4, 4, 4, 4] ++ (List.range 4).flatMap fun who => (List.range 4).flatMap fun r => if seq.getD r 0 = who then [r] else []

def ord3 (a b c : Nat) : List Nat := ins c 3 (ins b 2 (ins a 1 [0]))
theorem ordSt_four (m : Int) : ∃ a b c, a < 2 ∧ b < 3 ∧ c < 4 ∧ (ordSt m 4).2 = ord3 a b c := by
  have h0 := fmod_range m 0
  have e0 : (m.fmod (((0 : Nat) : Int) + 1)).toNat = 0 := by omega
  have h1 := fmod_range (ordSt m 1).1 1
  have h2 := fmod_range (ordSt m 2).1 2
  have h3 := fmod_range (ordSt m 3).1 3
  refine ⟨((ordSt m 1).1.fmod (((1 : Nat) : Int) + 1)).toNat, ((ordSt m 2).1.fmod (((2 : Nat) : Int) + 1)).toNat, ((ordSt m 3).1.fmod (((3 : Nat) : Int) + 1)).toNat, by omega, by omega, by omega, ?_⟩
  show ins _ 3 (ins _ 2 (ins _ 1 (ins (m.fmod (((0 : Nat) : Int) + 1)).toNat 0 []))) = _
  rw [e0]; rfl

/-- the facts of an order, to be decided -/
def SeqB (seq turns : List Nat) : Bool :=
  decide (turns.length = 8) && decide (seq.length = 4) && (List.range 4).all (fun x => decide (turns.getD x 0 = 4)) && (List.range 4).all (fun q => decide (turns.getD (4 + q) 0 < 4)) &&
  (List.range 4).all (fun q => (List.range 5).all fun j => !decide (turns.getD (4 + q) 0 < j) || decide (q ∉ seq.drop j)) &&
  (List.range 4).all (fun q => (List.range 4).all fun j => !decide (j ≤ turns.getD (4 + q) 0) || (decide (seq.drop j = (seq.drop j).take (turns.getD (4 + q) 0 - j) ++ q :: seq.drop (turns.getD (4 + q) 0 + 1)) && decide (q ∉ (seq.drop j).take (turns.getD (4 + q) 0 - j)))) &&
  seq.all (fun q => decide (q < 4))
theorem seqB_all : ∀ a : Fin 2, ∀ b : Fin 3, ∀ c : Fin 4, SeqB (ord3 a b c) (ranksOf (ord3 a b c)) = true := by decide +kernel

theorem seq_of {seq turns : List Nat} (h : SeqB seq turns = true) : Seq seq turns := by
  unfold SeqB at h
  simp only [Bool.and_eq_true, decide_eq_true_eq, List.all_eq_true, List.mem_range, Bool.or_eq_true, Bool.not_eq_true', decide_eq_false_iff_not] at h
  obtain ⟨⟨⟨⟨⟨⟨h1, h2⟩, h3⟩, h4⟩, h5⟩, h6⟩, h7⟩ := h
  refine ⟨h1, h3, h4, fun q hq j hj hlt => ?_, fun q hq j hj => ?_, h7, h2⟩
  · rcases h5 q hq j (by omega) with h | h
    · exact absurd hlt h
    · exact h
  · have := h4 q hq
    rcases h6 q hq j (by omega) with h | h
    · exact absurd hj h
    · exact h
theorem seq_ok (m : Int) : Seq (ordSt m 4).2 (ranksOf (ordSt m 4).2) := by
  obtain ⟨a, b, c, ha, hb, hc, e⟩ := ordSt_four m
  rw [e]
  exact seq_of (seqB_all ⟨a, ha⟩ ⟨b, hb⟩ ⟨c, hc⟩)

abbrev rulesOf (n0 n1 n2 n3 : Int) : List (List Nat) := [rl 0 n0, rl 1 n1, rl 2 n2, rl 3 n3]
abbrev threesOf (n0 n1 n2 n3 : Int) : List (List Nat) := [tr n0, tr n1, tr n2, tr n3]
abbrev wordsOf4 (n0 n1 n2 n3 : Int) : List (List Nat) := [signs (tr n0), signs (tr n1), signs (tr n2), signs (tr n3), [33], [35], [36], [37]]

theorem pickName_lt (k w : Nat) : pickName k w < 4 + k := by unfold pickName; split <;> omega
theorem rl_lt (k : Nat) (n : Int) : ∀ x ∈ rl k n, x < 4 + k := by
  intro x hx
  simp only [rl, List.mem_cons, List.not_mem_nil, or_false] at hx
  rcases hx with rfl | rfl <;> exact pickName_lt _ _
theorem tr_lt (n : Int) : ∀ b ∈ tr n, b < 256 := by
  intro b hb
  simp only [tr, List.mem_cons, List.not_mem_nil, or_false] at hb
  have h := fun a : Int => fmod_range a 255
  have e : ((255 : Nat) : Int) + 1 = 256 := rfl
  rw [e] at h
  rcases hb with rfl | rfl | rfl
  · have := h (n.fdiv 16); omega
  · have := h (n.fdiv 4096); omega
  · have := h n; omega

theorem parts_ok (n0 n1 n2 n3 m : Int) : Parts (rulesOf n0 n1 n2 n3) (threesOf n0 n1 n2 n3) (wordsOf4 n0 n1 n2 n3) (ordSt m 4).2 (ranksOf (ordSt m 4).2) where
  sq := seq_ok m
  hit := fun q hq => by
    rcases (by omega : q = 0 ∨ q = 1 ∨ q = 2 ∨ q = 3) with rfl | rfl | rfl | rfl <;> exact rl_lt _ _
  two := fun q hq => by
    rcases (by omega : q = 0 ∨ q = 1 ∨ q = 2 ∨ q = 3) with rfl | rfl | rfl | rfl <;> rfl
  r4 := rfl
  t4 := rfl
  th3 := fun q hq => by
    rcases (by omega : q = 0 ∨ q = 1 ∨ q = 2 ∨ q = 3) with rfl | rfl | rfl | rfl <;> rfl
  oct := fun q hq => by
    rcases (by omega : q = 0 ∨ q = 1 ∨ q = 2 ∨ q = 3) with rfl | rfl | rfl | rfl <;> exact tr_lt _
  wl := rfl
  low := fun q hq => by
    rcases (by omega : q = 0 ∨ q = 1 ∨ q = 2 ∨ q = 3) with rfl | rfl | rfl | rfl <;> rfl
  high := fun q hq => by
    rcases (by omega : q = 0 ∨ q = 1 ∨ q = 2 ∨ q = 3) with rfl | rfl | rfl | rfl <;> rfl

section
variable {R Th W : List (List Nat)} {seq turns : List Nat} (P : Parts R Th W seq turns)

/-- the text after i calls -/
def textAt (R W : List (List Nat)) (seq : List Nat) (th : Nat) (tail : List Nat) (i : Nat) : List Nat := render W (runI R seq i [th, 7]) ++ signs tail
include P
theorem signs_free {tail : List Nat} (h : ∀ x ∈ tail, x < 256) : ∀ q, q < 4 → nc q ∉ signs tail := fun q hq hm => by
  have := signs_lt tail h _ hm
  have := nc_lt hq
  omega
theorem tok_things {th : Nat} (hth : th < 8) : Tok [th, 7] := fun t ht => by
  simp only [List.mem_cons, List.not_mem_nil, or_false] at ht
  omega
theorem text_next {th : Nat} {tail : List Nat} (hth : th < 8) (htl : ∀ x ∈ tail, x < 256) (i : Nat) : textAt R W seq th tail (i + 1) = repAll (pairsOf R W seq) (textAt R W seq th tail i) := by
  unfold textAt
  rw [repAll_render P seq _ _ P.sq.small (tok_runI P i _ (tok_things P hth)) (signs_free P htl)]
  rfl
theorem pairs_take (j : Nat) : (pairsOf R W seq).take j = pairsOf R W (seq.take j) := by simp [pairsOf]
theorem step_len (ts sfx : List Nat) (h : Tok ts) (hb : (ts.flatMap fun x => (tk R Th turns x).2.2).length ≤ 96) (hs : sfx.length ≤ 100) (hf : ∀ q, q < 4 → nc q ∉ sfx) (j : Nat) : (repAll ((pairsOf R W seq).take j) (render W ts ++ sfx)).length ≤ 900 := by
  have hq : ∀ q ∈ seq.take j, q < 4 := fun q hq => P.sq.small q (List.mem_of_mem_take hq)
  rw [pairs_take P, repAll_render P _ _ _ hq h hf, List.length_append]
  have ht := tok_runL P (seq.take j) ts hq h
  have h1 := render_len P _ ht
  have h2 := count_le P _ ht
  rw [behind_runL P _ _ hq] at h2
  omega
theorem text_len {th : Nat} {tail : List Nat} (hth : th < 8) (htl : ∀ x ∈ tail, x < 256) (htl2 : tail.length ≤ 2) (i j : Nat) : (repAll ((pairsOf R W seq).take j) (textAt R W seq th tail i)).length ≤ 900 := by
  refine step_len P _ _ (tok_runI P i _ (tok_things P hth)) ?_ ?_ (signs_free P htl) j
  · rw [behind_runI P]
    have h1 := (behind_le P th).1
    have h2 := (behind_le P 7).1
    simp only [List.flatMap_cons, List.flatMap_nil, List.append_nil, List.length_append]; omega
  · have := signs_length tail; omega
theorem rule_len : ∀ p ∈ pairsOf R W seq, p.2.length ≤ 100 := by
  intro p hp
  obtain ⟨q, hq, rfl⟩ := List.mem_map.mp hp
  have hq4 := P.sq.small q hq
  have := render_len P (R.getD q []) fun x hx => by have := P.hit q hq4 x hx; omega
  rw [P.two q hq4] at this
  simp only; omega
theorem name_eq {k : Nat} (hk : k < 4) : repAll (pairsOf R W seq) [nc k] = render W (tk R Th turns (4 + k)).1 := by
  have := repAll_render P seq [4 + k] [] P.sq.small (fun t ht => by rw [List.mem_singleton.mp ht]; omega) (fun _ _ h => by cases h)
  rw [run_left P.sq P.hit _ (by omega : 4 + k < 8) (Th := Th), List.append_nil, List.append_nil] at this
  have e : render W [4 + k] = [nc k] := by rw [← P.high k hk]; exact List.append_nil _
  rw [← this, e]
theorem name_len {k : Nat} (hk : k < 4) (j : Nat) : (repAll ((pairsOf R W seq).take j) [nc k]).length ≤ 900 := by
  have e : render W [4 + k] ++ [] = [nc k] := by rw [← P.high k hk, List.append_nil]; exact List.append_nil _
  rw [← e]
  refine step_len P [4 + k] [] (fun t ht => by rw [List.mem_singleton.mp ht]; omega) ?_ (by simp) (fun _ _ h => by cases h) j
  have h1 := (behind_le P (4 + k)).1
  simp only [List.flatMap_cons, List.flatMap_nil, List.append_nil]; omega

theorem text_has {th : Nat} {tail : List Nat} (hth : th < 8) (htl : ∀ x ∈ tail, x < 256) (i : Nat) : (∃ q, q < 4 ∧ nc q ∈ textAt R W seq th tail i) ↔ i < max (tk R Th turns th).2.1 (tk R Th turns 7).2.1 := by
  have e : runI R seq i [th, 7] = runI R seq i [th] ++ runI R seq i [7] := by
    have := runI_flatMap R seq (fun x => [x]) i [th, 7]
    simpa using this
  have hh : Has (runI R seq i [th, 7]) ↔ i < max (tk R Th turns th).2.1 (tk R Th turns 7).2.1 := by
    rw [e, has_append, has_depth P th hth, has_depth P 7 (by omega)]
    omega
  rw [← hh]
  have htok := tok_runI P i _ (tok_things P hth)
  constructor
  · rintro ⟨q, hq, hm⟩
    rcases List.mem_append.mp hm with h | h
    · exact ⟨4 + q, (mem_render P hq _ htok).mp h, by omega⟩
    · exact absurd h (signs_free P htl q hq)
  · rintro ⟨t, ht, h4⟩
    have h8 := htok t ht
    refine ⟨t - 4, by omega, List.mem_append_left _ ((mem_render P (by omega) _ htok).mpr ?_)⟩
    rw [show 4 + (t - 4) = t by omega]; exact ht
theorem text_end {th : Nat} {tail : List Nat} (hth : th < 8) (htl : ∀ x ∈ tail, x < 256) :
    textAt R W seq th tail (max (tk R Th turns th).2.1 (tk R Th turns 7).2.1) = signs ((tk R Th turns th).2.2 ++ (tk R Th turns 7).2.2 ++ tail) := by
  have hn : ¬ Has (runI R seq (max (tk R Th turns th).2.1 (tk R Th turns 7).2.1) [th, 7]) := fun ⟨t, ht, h4⟩ => by
    have htok := tok_runI P (max (tk R Th turns th).2.1 (tk R Th turns 7).2.1) _ (tok_things P hth)
    have h8 := htok t ht
    have := (text_has P hth htl (max (tk R Th turns th).2.1 (tk R Th turns 7).2.1)).mp ⟨t - 4, by omega, List.mem_append_left _ ((mem_render P (by omega) _ htok).mpr (by rw [show 4 + (t - 4) = t by omega]; exact ht))⟩
    omega
  unfold textAt
  rw [render_signs P _ (tok_runI P _ _ (tok_things P hth)) hn, behind_runI P]
  have h1 := (behind_len P th hth).2.1
  have h2 := (behind_len P 7 (by omega)).2.1
  rw [← signs_append]
  · simp
  · simp only [List.flatMap_cons, List.flatMap_nil, List.append_nil, List.length_append]; omega
end
end Mine

namespace Mine

def lawFd (cd : Value) : FuncData := { fdLaw with code := cd }
abbrev xLaw (C : Cx) (L a : Addr) (cd : Value) : Act := .fn C (callEnvC (lawFd cd) L a)
abbrev lawS (k : Nat) : Stmt := lastStm k (bodyOf (stm 15))
def wD (W : List (List Nat)) : D := .list (W.map fun w => D.str (S w))
abbrev nD (n0 n1 n2 n3 n4 : Int) : D := .list [.int n0, .int n1, .int n2, .int n3, .int n4]

theorem wD_nom (W : List (List Nat)) : NoM (wD W) := by
  show NoMs _
  refine .of fun d hd => ?_
  obtain ⟨x, _, rfl⟩ := List.mem_map.mp hd
  trivial
theorem LD_nom (l : List (List Nat)) : NoM (LD l) := by
  show NoMs _
  refine .of fun d hd => ?_
  obtain ⟨x, _, rfl⟩ := List.mem_map.mp hd
  exact iD_nom x
theorem tDs_nom (l : List T) : NoM (.list (l.map tD)) := by
  show NoMs _
  refine .of fun d hd => ?_
  obtain ⟨x, _, rfl⟩ := List.mem_map.mp hd
  exact tD_nom x
theorem wD_get {W : List (List Nat)} {i : Nat} (h : i < W.length) : (W.map fun w => D.str (S w))[i]? = some (.str (S (W.getD i []))) := by
  simp [List.getD_eq_getElem?_getD, h]

theorem sees2 {X : Act} {ρ : Rho} {scope : Scope} {x : Str} {c : Addr} {d : D} (hclos : closureFor scope X.env = pure [(x, c)]) (hρ : ρ.lookup x = some d) (hkd : X.env.kindOf x = some .cell)
    (hrel : (relabel scope X.env).names.lookup x = some .cell) (hcl : X.env.cells.lookup x = some c) (hnom : NoM d) (hk : scope.kind = .function) (hcell : ∀ y ∈ scope.names, y.2 ≠ .cell) (hn : ∀ y ∈ scope.names, y.2 = .local → scope.names.lookup y.1 = some .local) : Sees X ρ [(x, d)] scope [(x, c)] :=
  sees1 hclos (mem_of_lookup hcl) hρ hkd hrel hcl hnom hk hcell hn

/-- a function that hands back a text, under a list that may change -/
theorem FnOk.lift {C : Cx} {n : Nat} {fv : Value} {ds : List D} {x : Str} {mu : List Addr} (h : FnOk C [] n fv [] ds [] (.str x)) (hd : NoMs ds) : FnOk C mu n fv [] ds [] (.str x) := by
  intro A s vs us hA hC rv ru E Q hQ
  cases ru
  exact h A s vs [] hA hC (rv.dropM hd) .nil E Q fun v s' k r => hQ v s' k (by cases r; exact .str ..)

def gTr : D → List D
  | .int i => [.list (iD (tr i))]
  | _ => []

section
variable {C : Cx} {n : Nat} {L a : Addr} {cd : Value}

theorem law_0 (ns : List Int) (hl : ns.length ≤ 63) : Ex1 (xLaw C L a cd) n [("script", .list (ns.map D.int))] (lawS 0) (.next [("numbers", .list (((ns.take 5 ++ [300, 1004, 601, 806, 9]).take 5).map D.int)), ("script", .list (ns.map D.int))]) := by
  refine Ex1.assign (Ev.leq (ev_slice (kl := none) (kh := some ((5 : Nat) : Int)) (ev_addList (ev_slice (kl := none) (kh := some ((5 : Nat) : Int)) (Ev.name rfl) (True.intro : True) (Ev.int : Ev _ _ _ _ _) (by rw [List.length_map]; omega)) (Ev.list (ds := [300, 1004, 601, 806, 9].map D.int) (Evs.cons Ev.int (Evs.cons Ev.int (Evs.cons Ev.int (Evs.cons Ev.int (Evs.cons Ev.int Evs.nil))))) (by decide)) ?_) (True.intro : True) (Ev.int : Ev _ _ _ _ _) ?_) ?_) (.inl rfl) rfl
  · rw [pick_take]; simp; omega
  · rw [pick_take]; simp; omega
  · rw [pick_take, pick_take]
    simp only [← List.map_take, ← List.map_append]

theorem law_1 (N : Names C) (ns : List Int) (x : D) (hl : ns.length ≤ 63) : Ex1 (xLaw C L a cd) n [("numbers", x), ("script", .list (ns.map D.int))] (lawS 1) (.next [("total", .int ((ns.take 20).sum + 69)), ("numbers", x), ("script", .list (ns.map D.int))]) := by
  refine Ex1.assign (Ev.binop (Ev.call (ds := [.list ((ns.take 20).map D.int)]) (glB N.sum_) (.inl ⟨_, rfl⟩) (Evs.cons (Ev.leq (ev_slice (kl := none) (kh := some ((20 : Nat) : Int)) (Ev.name rfl) (True.intro : True) (Ev.int : Ev _ _ _ _ _) (by rw [List.length_map]; omega)) (by rw [pick_take, List.map_take])) Evs.nil) fn_sum (.inr rfl)) Ev.int op_add) (.inl rfl) rfl

variable (n0 n1 n2 n3 n4 t : Int)
abbrev ρ2 : Rho := [("total", .int t), ("numbers", nD n0 n1 n2 n3 n4)]

theorem mod256 (a : Int) : a.fmod 256 = (((a.fmod 256).toNat : Nat) : Int) := by
  have h255 := fmod_range a 255
  have e : ((255 : Nat) : Int) + 1 = 256 := rfl
  rw [e] at h255
  omega

theorem law_2 : Ex1 (xLaw C L a cd) n (ρ2 n0 n1 n2 n3 n4 t) (lawS 2) (.next (("triples", LD (threesOf n0 n1 n2 n3)) :: ρ2 n0 n1 n2 n3 n4 t)) := by
  have hg0 : ([D.int n0, .int n1, .int n2, .int n3]).flatMap gTr = (threesOf n0 n1 n2 n3).map fun x => D.list (iD x) := rfl
  unfold LD
  rw [← hg0]
  refine ex_assignComp [] gTr rfl (noSees rfl rfl (by decide +kernel) (by decide +kernel)) rfl (It.list (ev_slice (kl := none) (kh := some ((4 : Nat) : Int)) (ds := [.int n0, .int n1, .int n2, .int n3, .int n4]) (Ev.name rfl) (True.intro : True) (Ev.int : Ev _ _ _ _ _) (by simp)) rfl) ⟨trivial, trivial, trivial, trivial, trivial⟩ rfl rfl ?_ (show 4 ≤ 1000000 by decide) ?_ (.inl rfl)
  · intro d hd
    simp only [List.mem_cons, List.not_mem_nil, or_false] at hd
    rcases hd with rfl | rfl | rfl | rfl <;> exact ⟨iD_nom _, trivial⟩
  · intro c l d hd
    have : ∃ i, d = .int i := by
      simp only [List.mem_cons, List.not_mem_nil, or_false] at hd
      rcases hd with rfl | rfl | rfl | rfl <;> exact ⟨_, rfl⟩
    obtain ⟨i, rfl⟩ := this
    refine ⟨true, Tests.nil, fun _ => ⟨_, rfl, ?_⟩, fun h => by cases h⟩
    exact Ev.list (Evs.cons (Ev.ieq (Ev.binop (Ev.binop (Ev.name rfl) Ev.int (op_fdiv (by decide) (by decide))) Ev.int (op_fmod (by decide))) (mod256 _)) (Evs.cons (Ev.ieq (Ev.binop (Ev.binop (Ev.name rfl) Ev.int (op_fdiv (by decide) (by decide))) Ev.int (op_fmod (by decide))) (mod256 _)) (Evs.cons (Ev.ieq (Ev.binop (Ev.name rfl) Ev.int (op_fmod (by decide))) (mod256 _)) Evs.nil))) (by simp [iD, tr])

abbrev ρ3 : Rho := ("triples", LD (threesOf n0 n1 n2 n3)) :: ρ2 n0 n1 n2 n3 n4 t

def gPick (k : Nat) : D → List D
  | .int w => [.int ((pickName k w.toNat : Nat) : Int)]
  | _ => []

theorem law_4_turn (k : Nat) (hk : k < 4) (nk : Int) (hnk : ([.int n0, .int n1, .int n2, .int n3, .int n4] : List D)[k]? = some (.int nk)) (Rs : List (List Nat)) (hRs : Rs.length ≤ 4) :
    Ex (xLaw C L a cd) n (("name", .int (k : Int)) :: ("rules", LD Rs) :: ρ3 n0 n1 n2 n3 n4 t) (forBody (lawS 4)) (.next (("rules", LD (Rs ++ [rl k nk])) :: ρ3 n0 n1 n2 n3 n4 t)) := by
  have hne : (k : Int) + 1 ≠ 0 := by omega
  have q : ∀ a : Int, a.fmod ((k : Int) + 1) = (((a.fmod ((k : Int) + 1)).toNat : Nat) : Int) := fun a => by have := fmod_range a k; omega
  generalize hA : (nk.fmod ((k : Int) + 1)).toNat = A
  generalize hB : ((nk.fdiv 4).fmod ((k : Int) + 1)).toNat = B
  have hrl : rl k nk = [pickName k A, pickName k B] := by rw [rl, hA, hB]
  refine Ex.cons (Ex1.assign (d := .list (iD [A, B])) ?_ (.inl rfl) rfl) ?_
  · refine Ev.list (Evs.cons (Ev.ieq (Ev.binop (ev_item (k := (k : Int)) (Ev.name rfl) (Ev.name rfl) (by omega) (by rw [Int.toNat_natCast]; exact hnk) (by omega)) (Ev.binop (Ev.name rfl) Ev.int op_add) (op_fmod hne)) ?_) (Evs.cons (Ev.ieq (Ev.binop (Ev.binop (ev_item (k := (k : Int)) (Ev.name rfl) (Ev.name rfl) (by omega) (by rw [Int.toNat_natCast]; exact hnk) (by omega)) Ev.int (op_fdiv (by decide) (by decide))) (Ev.binop (Ev.name rfl) Ev.int op_add) (op_fmod hne)) ?_) Evs.nil)) (by simp [iD])
    · rw [← hA]; exact q _
    · rw [← hB]; exact q _
  have hg0 : (iD [A, B]).flatMap (gPick k) = iD (rl k nk) := by rw [hrl]; rfl
  refine Ex.sub (Ex.cons (Ex1.assign (ev_addList (Ev.name rfl) (Ev.list (ds := [.list (iD (rl k nk))]) (Evs.cons ?_ Evs.nil) (by simp)) (by simp; omega)) (.inl rfl) rfl) Ex.nil) ?_
  · rw [← hg0]
    refine ev_comp [(Str.ofString "name", L + 1)] (gPick k) (sees2 rfl rfl rfl rfl rfl (d := .int (k : Int)) trivial rfl (by decide +kernel) (by decide +kernel)) rfl (It.list (Ev.name rfl) rfl) (iD_nom _) rfl rfl ?_ ?_ ?_
    · intro d hd
      obtain ⟨w, _, rfl⟩ := List.mem_map.mp hd
      exact ⟨trivial, trivial⟩
    · rw [hg0]; simp [iD, rl]
    · intro c l d hd
      obtain ⟨w, _, rfl⟩ := List.mem_map.mp hd
      refine ⟨true, Tests.nil, fun _ => ⟨_, rfl, ?_⟩, fun h => by cases h⟩
      refine Ev.ifexp (c := decide ((w : Int) < (k : Int))) (Tr.cmp (Ev.name rfl) (Ev.name rfl) op_lt) (fun h => ?_) fun h => ?_
      · have h := of_decide_eq_true h
        refine Ev.ieq (Ev.binop Ev.int (Ev.name rfl) op_add) ?_
        rw [Int.toNat_natCast, pickName, if_pos (by omega)]; omega
      · have h := of_decide_eq_false h
        refine Ev.ieq (Ev.name rfl) ?_
        rw [Int.toNat_natCast, pickName, if_neg (by omega)]
  · exact .cons (by show _ = some (LD _); unfold LD; rw [List.map_append]; rfl) (.cons rfl (.cons rfl (.cons rfl .nil)))

abbrev ρ4 : Rho := ("rules", LD (rulesOf n0 n1 n2 n3)) :: ρ3 n0 n1 n2 n3 n4 t

theorem law_34 (N : Names C) {ss : List Stmt} {o : Out} (h : Ex (xLaw C L a cd) n (ρ4 n0 n1 n2 n3 n4 t) ss o) : Ex (xLaw C L a cd) n (ρ3 n0 n1 n2 n3 n4 t) (lawS 3 :: lawS 4 :: ss) o := by
  refine Ex.cons (Ex1.assign (d := LD []) (Ev.list Evs.nil (by decide)) (.inl rfl) rfl) ?_
  refine Ex.cons (Ex1.for_ (ds := (List.range 4).map fun (i : Nat) => D.int (i : Int)) (fun i => ("rules", LD ((rulesOf n0 n1 n2 n3).take i)) :: ρ3 n0 n1 n2 n3 n4 t) (it_range1 4 (glB N.range_) Ev.int (by omega)) (Sub.refl _) (.inr ⟨rfl, rfl, rfl⟩) ?_) h
  intro i d hd
  rw [List.getElem?_map] at hd
  by_cases hi : i < 4
  · rw [List.getElem?_range hi] at hd
    cases hd
    rcases (by omega : i = 0 ∨ i = 1 ∨ i = 2 ∨ i = 3) with rfl | rfl | rfl | rfl
    · exact law_4_turn n0 n1 n2 n3 n4 t 0 (by omega) n0 rfl [] (by simp)
    · exact law_4_turn n0 n1 n2 n3 n4 t 1 (by omega) n1 rfl [rl 0 n0] (by simp)
    · exact law_4_turn n0 n1 n2 n3 n4 t 2 (by omega) n2 rfl [rl 0 n0, rl 1 n1] (by simp)
    · exact law_4_turn n0 n1 n2 n3 n4 t 3 (by omega) n3 rfl [rl 0 n0, rl 1 n1, rl 2 n2] (by simp)
  · rw [List.getElem?_eq_none (by rw [List.length_range]; omega)] at hd; cases hd
end
end Mine

namespace Mine

def gRank (seq : List Nat) : D → D → List D
  | .int w, .int r => if seq.getD r.toNat 0 = w.toNat then [.int r] else []
  | _, _ => []
theorem iD_flatMap (f : Nat → List Nat) : ∀ l : List Nat, iD (l.flatMap f) = l.flatMap fun x => iD (f x)
  | [] => rfl
  | x :: l => by simp only [List.flatMap_cons]; rw [iD_append, iD_flatMap f l]
theorem fm_congrD {f g : Nat → List D} : ∀ {l : List Nat}, (∀ x ∈ l, f x = g x) → l.flatMap f = l.flatMap g
  | [], _ => rfl
  | a :: l, h => by simp only [List.flatMap_cons]; rw [h a (.head _), fm_congrD fun x hx => h x (.tail _ hx)]
theorem gRank_all (seq : List Nat) : (((List.range 4).map fun (i : Nat) => D.int (i : Int)).flatMap fun d => (((List.range 4).map fun (i : Nat) => D.int (i : Int))).flatMap (gRank seq d)) = iD ((List.range 4).flatMap fun who => (List.range 4).flatMap fun r => if seq.getD r 0 = who then [r] else []) := by
  rw [iD_flatMap, List.flatMap_map]
  refine fm_congrD fun who _ => ?_
  rw [iD_flatMap, List.flatMap_map]
  refine fm_congrD fun r _ => ?_
  simp only [gRank, Int.toNat_natCast]
  split <;> rfl

def unInt : D → Nat
  | .int i => i.toNat
  | _ => 0
theorem unInt_iD (l : List Nat) : (iD l).map unInt = l := by
  induction l with
  | nil => rfl
  | cons a l ih => simp only [iD, List.map_cons] at ih ⊢; rw [ih]; rfl
def gW : D → List D
  | .list ds => [.str (S (signs (ds.map unInt)))]
  | _ => []

section
variable {C : Cx} {n : Nat} {L a : Addr} {cd : Value} (n0 n1 n2 n3 n4 t : Int)
abbrev seqT (t : Int) : List Nat := (ordSt (t.fdiv 3) 4).2
abbrev ρ5 : Rho := ("sequence", .list (iD (seqT t))) :: ρ4 n0 n1 n2 n3 n4 t
abbrev ρ6 : Rho := ("ranks", .list (iD (ranksOf (seqT t)))) :: ρ5 n0 n1 n2 n3 n4 t
abbrev tls : List T := tolds (rulesOf n0 n1 n2 n3) (threesOf n0 n1 n2 n3) (ranksOf (seqT t)) 4
abbrev ρ7 : Rho := ("answers", .list ((tls n0 n1 n2 n3 t).map tD)) :: ρ6 n0 n1 n2 n3 n4 t
abbrev ρ8 : Rho := ("words", wD (wordsOf4 n0 n1 n2 n3)) :: ρ7 n0 n1 n2 n3 n4 t

theorem law_5 (N : Names C) : Ex1 (xLaw C L a cd) (n + 5) (ρ4 n0 n1 n2 n3 n4 t) (lawS 5) (.next (ρ5 n0 n1 n2 n3 n4 t)) :=
  Ex1.assign (Ev.call (glF N.order) N.order.2.callee (Evs.cons (Ev.binop (Ev.name rfl) Ev.int (op_fdiv (by decide) (by decide))) Evs.nil) (order_ok (n := n + 4) N _) (.inl ⟨_, rfl⟩)) (.inr ⟨rfl, rfl, rfl⟩) rfl

theorem law_6 (N : Names C) : Ex1 (xLaw C L a cd) n (ρ5 n0 n1 n2 n3 n4 t) (lawS 6) (.next (ρ6 n0 n1 n2 n3 n4 t)) := by
  have hs4 : (seqT t).length = 4 := ordSt_length _ 4
  have hlen := (seq_ok (t.fdiv 3)).len
  refine Ex1.assign (Ev.leq (ev_addList (Ev.list (ds := iD [4, 4, 4, 4]) (Evs.cons Ev.int (Evs.cons Ev.int (Evs.cons Ev.int (Evs.cons Ev.int Evs.nil)))) (by decide)) (ev_comp2 [(Str.ofString "sequence", L + 1 + 1)] (fun _ => (List.range 4).map fun (i : Nat) => D.int (i : Int)) (gRank (seqT t)) (sees2 rfl rfl rfl rfl rfl (d := .list (iD (seqT t))) (iD_nom _) rfl (by decide +kernel) (by decide +kernel)) rfl (it_range1 4 (glB N.range_) Ev.int (by omega)) ?_ rfl rfl rfl rfl (by decide +kernel) ?_ ?_ ?_ ?_) ?_) ?_) (.inl rfl) rfl
  · exact .of fun d hd => by obtain ⟨x, _, rfl⟩ := List.mem_map.mp hd; trivial
  · intro d _
    exact .of fun d hd => by obtain ⟨x, _, rfl⟩ := List.mem_map.mp hd; trivial
  · intro d hd d' hd'
    obtain ⟨w, _, rfl⟩ := List.mem_map.mp hd
    obtain ⟨r, _, rfl⟩ := List.mem_map.mp hd'
    simp only [gRank]
    split
    · exact ⟨trivial, trivial⟩
    · trivial
  · rw [gRank_all, iD_length]
    have : (ranksOf (seqT t)).length = 8 := hlen
    simp only [ranksOf, List.length_append, List.length_cons, List.length_nil] at this
    omega
  · intro c l d hd
    obtain ⟨w, hw, rfl⟩ := List.mem_map.mp hd
    refine ⟨it_range1 4 (glB N.range_) Ev.int (by omega), fun d' hd' => ?_⟩
    obtain ⟨r, hr, rfl⟩ := List.mem_map.mp hd'
    rw [List.mem_range] at hr
    refine ⟨_, Tests.one (Tr.cmp (ev_item (k := (r : Int)) (Ev.name rfl) (Ev.name rfl) (by omega) (by rw [Int.toNat_natCast]; exact iD_get (by omega)) (by omega)) (Ev.name rfl) op_eq), fun h => ?_, fun h => ?_⟩
    · refine ⟨.int (r : Int), ?_, Ev.name rfl⟩
      have h := eq_of_beq h
      simp only [gRank, Int.toNat_natCast]
      rw [if_pos (by omega)]
    · have h : ¬ (((seqT t).getD r 0 : Nat) : Int) = (w : Int) := fun e => by rw [e] at h; simp at h
      simp only [gRank, Int.toNat_natCast]
      rw [if_neg (by omega)]
  · rw [gRank_all, iD_length, iD_length]
    have : (ranksOf (seqT t)).length = 8 := hlen
    simp only [ranksOf, List.length_append, List.length_cons, List.length_nil] at this ⊢
    omega
  · rw [gRank_all, ← iD_append]; rfl

theorem law_7 (N : Names C) : Ex1 (xLaw C L a cd) (n + 5) (ρ6 n0 n1 n2 n3 n4 t) (lawS 7) (.next (ρ7 n0 n1 n2 n3 n4 t)) := by
  refine Ex1.assign (Ev.call (glF N.told) N.told.2.callee (Evs.cons (Ev.name rfl) (Evs.cons (Ev.name rfl) (Evs.cons (Ev.name rfl) Evs.nil))) (told_ok (n := n + 4) N _ _ _ (seq_ok (t.fdiv 3)).len rfl ?_ rfl ?_ ?_) (.inl ⟨_, rfl⟩)) (.inr ⟨rfl, rfl, rfl⟩) rfl
  · intro l hl
    simp only [List.mem_cons, List.not_mem_nil, or_false] at hl
    rcases hl with rfl | rfl | rfl | rfl <;> simp [rl]
  · intro l hl
    simp only [List.mem_cons, List.not_mem_nil, or_false] at hl
    rcases hl with rfl | rfl | rfl | rfl <;> simp [tr]
  · intro k l hk
    have h4 : k < 4 := (List.getElem?_eq_some_iff.mp hk).1
    rcases (by omega : k = 0 ∨ k = 1 ∨ k = 2 ∨ k = 3) with rfl | rfl | rfl | rfl <;> (cases hk; exact rl_lt _ _)

theorem law_8 (N : Names C) : Ex1 (xLaw C L a cd) (n + 5) (ρ7 n0 n1 n2 n3 n4 t) (lawS 8) (.next (ρ8 n0 n1 n2 n3 n4 t)) := by
  have hg0 : ((threesOf n0 n1 n2 n3).map fun x => D.list (iD x)).flatMap gW = [.str (S (signs (tr n0))), .str (S (signs (tr n1))), .str (S (signs (tr n2))), .str (S (signs (tr n3)))] := by
    simp [gW, unInt_iD]
  refine Ex1.assign (Ev.leq (ev_addList (ev_comp [] gW (noSees rfl rfl (by decide +kernel) (by decide +kernel)) rfl (It.list (Ev.name rfl) rfl) (LD_nom (threesOf n0 n1 n2 n3)) rfl rfl ?_ ?_ ?_) (Ev.list (ds := [.str (S [33]), .str (S [35]), .str (S [36]), .str (S [37])]) (Evs.cons (Ev.seq Ev.str (by decide +kernel)) (Evs.cons (Ev.seq Ev.str (by decide +kernel)) (Evs.cons (Ev.seq Ev.str (by decide +kernel)) (Evs.cons (Ev.seq Ev.str (by decide +kernel)) Evs.nil)))) (by simp)) ?_) ?_) (.inr ⟨rfl, rfl, rfl⟩) rfl
  · intro d hd
    obtain ⟨x, _, rfl⟩ := List.mem_map.mp hd
    exact ⟨trivial, trivial⟩
  · rw [hg0]; simp
  · intro c l d hd
    obtain ⟨x, hx, rfl⟩ := List.mem_map.mp hd
    refine ⟨true, Tests.nil, fun _ => ⟨.str (S (signs x)), by simp [gW, unInt_iD], ?_⟩, fun h => by cases h⟩
    have hx3 : ∃ i, x = tr i := by
      simp only [List.mem_cons, List.not_mem_nil, or_false] at hx
      rcases hx with rfl | rfl | rfl | rfl <;> exact ⟨_, rfl⟩
    obtain ⟨i, rfl⟩ := hx3
    exact Ev.call (glF N.written) N.written.2.callee (Evs.cons (Ev.name rfl) Evs.nil) ((written_ok (n := n + 1) N (tr i) (tr_lt i) (by simp [tr])).lift ⟨iD_nom _, trivial⟩) (.inl ⟨_, rfl⟩)
  · rw [hg0]; simp
  · rw [hg0]; rfl
end
end Mine

namespace Mine

theorem op_ne_str_same {C : Cx} {mu : List Addr} {n : Nat} {x : Str} : Op2 C mu n (compareOp .NotEq) (.str x) (.str x) (.bool false) := by
  have := op_ne_str (C := C) (mu := mu) (n := n) (a := x) (b := x)
  simpa using this

theorem replace_list {C : Cx} {n : Nat} (N : Names C) (ps : List (Nat × List Nat)) (x : List Nat) (h4 : ps.length = 4) (hx : ∀ i, (repAll (ps.take i) x).length ≤ 900) (hr : ∀ p ∈ ps, p.2.length ≤ 100) :
    FnOk C [] (n + 1) (.ref 28) [] (.str (S x) :: flatP ps) [] (.str (S (repAll ps x))) := by
  match ps, h4 with
  | [p0, p1, p2, p3], _ => exact replace_ok N.replace.2 p0 p1 p2 p3 x hx hr

def gWord (W : List (List Nat)) : D → List D
  | .int i => [.str (S (W.getD i.toNat []))]
  | _ => []
theorem gWord_all (W : List (List Nat)) (ts : List Nat) : (iD ts).flatMap (gWord W) = ((ts.map fun x => W.getD x []).map S).map D.str := by
  induction ts with
  | nil => rfl
  | cons k l ih => simp only [iD, List.map_cons, List.flatMap_cons] at ih ⊢; rw [ih]; rfl
theorem render_flat (W : List (List Nat)) (ts : List Nat) : (ts.map fun x => W.getD x []).flatten = render W ts := by
  simp [render, List.flatMap_def]

section
variable {C : Cx} {n : Nat} {L a : Addr} {cd : Value}

theorem words_comp {ρ : Rho} {x : Expr} {pos px a1 a2 a3 : Pos} {scope : Scope} (W : List (List Nat)) (ts : List Nat) (hts : ∀ t ∈ ts, t < W.length) (hW : W.length ≤ 100) (hl : ts.length ≤ 100) (hρ : ρ.lookup (Str.ofString "words") = some (wD W)) (hx : Ev (xLaw C L a cd) n ρ x (.list (iD ts)))
    (hscope : closureFor scope (xLaw C L a cd).env = pure [(Str.ofString "words", L + 1 + 1 + 1 + 1)]) (hrel : (relabel scope (xLaw C L a cd).env).names.lookup (Str.ofString "words") = some .cell) (hk : scope.kind = .function) (hcell : ∀ y ∈ scope.names, y.2 ≠ .cell) (hn : ∀ y ∈ scope.names, y.2 = .local → scope.names.lookup y.1 = some .local)
    (hfig : scope.names.lookup (Str.ofString "thing") = some .local) (hs : ∀ z, foldedSetIterable x (xLaw C L a cd).env z = pure z) :
    Ev (xLaw C L a cd) n ρ (.ListComp (.Subscript (.Name "words" a1) (.Name "thing" a2) a3) [⟨.Name "thing" px, x, [], 0⟩] scope pos) (.list (((ts.map fun x => W.getD x []).map S).map D.str)) := by
  rw [← gWord_all]
  refine ev_comp [(Str.ofString "words", L + 1 + 1 + 1 + 1)] (gWord W) (sees2 hscope hρ rfl hrel rfl (wD_nom W) hk hcell hn) rfl (It.list hx rfl) (iD_nom _) hfig rfl ?_ ?_ ?_ hs
  · intro d hd
    obtain ⟨k, _, rfl⟩ := List.mem_map.mp hd
    exact ⟨trivial, trivial⟩
  · rw [gWord_all]; simp; omega
  · intro c l d hd
    obtain ⟨k, hk, rfl⟩ := List.mem_map.mp hd
    refine ⟨true, Tests.nil, fun _ => ⟨_, rfl, ?_⟩, fun h => by cases h⟩
    have hkw := hts k hk
    exact ev_item (k := (k : Int)) (ds := W.map fun w => D.str (S w)) (Ev.name rfl) (Ev.name rfl) (by omega) (by rw [Int.toNat_natCast]; exact wD_get hkw) (by omega)

theorem fit_words (W : List (List Nat)) (ts : List Nat) (hl : ts.length ≤ 100) (hw : ∀ t ∈ ts, (W.getD t []).length ≤ 4) : (((ts.map fun x => W.getD x []).map S).map (·.length)).sum + ((ts.map fun x => W.getD x []).map S).length * (Str.ofString "").length ≤ 1000000 := by
  have h0 : (Str.ofString "").length = 0 := by decide +kernel
  have : (((ts.map fun x => W.getD x []).map S).map (·.length)).sum ≤ 4 * ts.length := by
    clear hl
    induction ts with
    | nil => simp
    | cons t ts ih =>
      have h1 := hw t (.head _)
      have h2 := ih fun x hx => hw x (.tail _ hx)
      simp only [List.map_cons, List.sum_cons, S_length, List.length_cons] at h2 ⊢; omega
  rw [h0]; omega

variable (n0 n1 n2 n3 n4 t : Int)
abbrev PP := parts_ok n0 n1 n2 n3 (t.fdiv 3)
abbrev prs (n0 n1 n2 n3 t : Int) (qs : List Nat) : List (Nat × List Nat) := pairsOf (rulesOf n0 n1 n2 n3) (wordsOf4 n0 n1 n2 n3) qs
abbrev ρ10 : Rho := ("pairs", .list (flatP (prs n0 n1 n2 n3 t (seqT t)))) :: ρ8 n0 n1 n2 n3 n4 t

theorem flatP_append (a b : List (Nat × List Nat)) : flatP (a ++ b) = flatP a ++ flatP b := by simp [flatP]

theorem law_10_turn (qs : List Nat) (q : Nat) (hq : q < 4) (hqs : qs.length ≤ 4) :
    Ex (xLaw C L a cd) n (("name", .int (q : Int)) :: ("pairs", .list (flatP (prs n0 n1 n2 n3 t qs))) :: ρ8 n0 n1 n2 n3 n4 t) (forBody (lawS 10)) (.next (("pairs", .list (flatP (prs n0 n1 n2 n3 t (qs ++ [q])))) :: ρ8 n0 n1 n2 n3 n4 t)) := by
  have P := parts_ok n0 n1 n2 n3 (t.fdiv 3)
  have hR2 := P.two q hq
  have hRlt : ∀ x ∈ (rulesOf n0 n1 n2 n3).getD q [], x < 8 := fun x hx => by have := P.hit q hq x hx; omega
  have hRget : (rulesOf n0 n1 n2 n3)[q]? = some ((rulesOf n0 n1 n2 n3).getD q []) := by
    rcases (by omega : q = 0 ∨ q = 1 ∨ q = 2 ∨ q = 3) with rfl | rfl | rfl | rfl <;> rfl
  have e4 : (4 : Int) + (q : Int) = ((4 + q : Nat) : Int) := by omega
  have hw4 : S ((wordsOf4 n0 n1 n2 n3).getD (4 + q) []) = S [nc q] := by rw [P.high q hq]
  refine Ex.sub (Ex.cons (Ex1.assign (ev_addList (Ev.name rfl) (Ev.list (ds := [.str (S [nc q]), .str (S (render (wordsOf4 n0 n1 n2 n3) ((rulesOf n0 n1 n2 n3).getD q [])))]) (Evs.cons (Ev.seq (ev_item (k := ((4 + q : Nat) : Int)) (ds := (wordsOf4 n0 n1 n2 n3).map fun w => D.str (S w)) (Ev.name rfl) (Ev.ieq (Ev.binop Ev.int (Ev.name rfl) op_add) e4) (by omega) (by rw [Int.toNat_natCast]; exact wD_get (show 4 + q < 8 by omega)) (by omega)) hw4) (Evs.cons (Ev.seq (ev_join (ys := ((((rulesOf n0 n1 n2 n3).getD q []).map fun x => (wordsOf4 n0 n1 n2 n3).getD x []).map S)) Ev.str (words_comp (wordsOf4 n0 n1 n2 n3) ((rulesOf n0 n1 n2 n3).getD q []) hRlt (by simp) (by omega) rfl ?_ rfl rfl rfl (by decide +kernel) (by decide +kernel) rfl (fun _ => rfl)) (fit_words _ _ (by omega) fun x hx => word_len P (hRlt x hx))) ?_) Evs.nil)) (by simp)) ?_) (.inl rfl) rfl) Ex.nil) ?_
  · exact ev_item (k := (q : Int)) (ds := (rulesOf n0 n1 n2 n3).map fun x => D.list (iD x)) (Ev.name rfl) (Ev.name rfl) (by omega) (by rw [Int.toNat_natCast]; exact LD_get hRget) (by omega)
  · rw [join_empty, render_flat]
  · rw [flatP_length]; simp [pairsOf]; omega
  · have e : flatP (prs n0 n1 n2 n3 t (qs ++ [q])) = flatP (prs n0 n1 n2 n3 t qs) ++ [.str (S [nc q]), .str (S (render (wordsOf4 n0 n1 n2 n3) ((rulesOf n0 n1 n2 n3).getD q [])))] := by
      show flatP (pairsOf _ _ (qs ++ [q])) = _
      unfold pairsOf
      rw [List.map_append, flatP_append]; rfl
    rw [e]
    exact .cons rfl (.cons rfl (.cons rfl (.cons rfl (.cons rfl (.cons rfl (.cons rfl (.cons rfl (.cons rfl .nil))))))))

theorem law_910 {ss : List Stmt} {o : Out} (h : Ex (xLaw C L a cd) n (ρ10 n0 n1 n2 n3 n4 t) ss o) : Ex (xLaw C L a cd) n (ρ8 n0 n1 n2 n3 n4 t) (lawS 9 :: lawS 10 :: ss) o := by
  have P := parts_ok n0 n1 n2 n3 (t.fdiv 3)
  have hs4 : (seqT t).length = 4 := ordSt_length _ 4
  refine Ex.cons (Ex1.assign (d := .list (flatP [])) (Ev.list Evs.nil (by decide)) (.inl rfl) rfl) ?_
  refine Ex.cons (Ex1.for_ (ds := iD (seqT t)) (fun i => ("pairs", .list (flatP (prs n0 n1 n2 n3 t ((seqT t).take i)))) :: ρ8 n0 n1 n2 n3 n4 t) (It.list (Ev.name rfl) rfl) (Sub.refl _) (.inr ⟨rfl, rfl, rfl⟩) ?_) ?_
  · intro i d hd
    rw [iD, List.getElem?_map] at hd
    cases hq : (seqT t)[i]? with
    | none => rw [hq] at hd; cases hd
    | some q =>
      rw [hq] at hd; cases hd
      have e : (seqT t).take (i + 1) = (seqT t).take i ++ [q] := by rw [List.take_add_one, hq]; rfl
      rw [e]
      exact law_10_turn n0 n1 n2 n3 n4 t _ q (P.sq.small q (List.mem_of_getElem? hq)) (by rw [List.length_take]; omega)
  · rw [iD_length, List.take_length]
    exact h
end
end Mine

namespace Mine

section
variable {C : Cx} {n : Nat} {L a : Addr} {cd : Value} (n0 n1 n2 n3 n4 t : Int)

theorem left_tok {R Th W : List (List Nat)} {seq turns : List Nat} (P : Parts R Th W seq turns) {x : Nat} (hx : x < 8) : Tok (tk R Th turns x).1 := by
  rw [← run_left P.sq P.hit x hx (Th := Th)]
  exact tok_runL P _ _ P.sq.small fun y hy => by rw [List.mem_singleton.mp hy]; exact hx

abbrev tkk (n0 n1 n2 n3 t : Int) (x : Nat) : T := tk (rulesOf n0 n1 n2 n3) (threesOf n0 n1 n2 n3) (ranksOf (seqT t)) x

theorem law_11_turn (N : Names C) (k : Nat) (hk : k < 4) :
    Ex (xLaw C L a cd) (n + 5) (("name", .int (k : Int)) :: ρ10 n0 n1 n2 n3 n4 t) (forBody (lawS 11)) (.next (ρ10 n0 n1 n2 n3 n4 t)) := by
  have P := parts_ok n0 n1 n2 n3 (t.fdiv 3)
  have hs4 : (seqT t).length = 4 := ordSt_length _ 4
  have e4 : (4 : Int) + (k : Int) = ((4 + k : Nat) : Int) := by omega
  have hw4 : S ((wordsOf4 n0 n1 n2 n3).getD (4 + k) []) = S [nc k] := by rw [P.high k hk]
  have htl : (tls n0 n1 n2 n3 t).length = 8 := tolds_length _ _ _ 4
  have htok : ∀ x ∈ (tkk n0 n1 n2 n3 t (4 + k)).1, x < 8 := left_tok P (by omega)
  have hle : (tkk n0 n1 n2 n3 t (4 + k)).1.length ≤ 100 := Nat.le_trans (behind_le P (4 + k)).2 (by omega)
  have hfin : S (repAll (prs n0 n1 n2 n3 t (seqT t)) [nc k]) = S (render (wordsOf4 n0 n1 n2 n3) (tkk n0 n1 n2 n3 t (4 + k)).1) := by rw [name_eq P hk]
  have hpl : (prs n0 n1 n2 n3 t (seqT t)).length = 4 := by simp [pairsOf, hs4]
  refine Ex.sub (Ex.cons (Ex1.ite (c := false) (Tr.cmp (d1 := .str (S (render (wordsOf4 n0 n1 n2 n3) (tkk n0 n1 n2 n3 t (4 + k)).1))) (d2 := .str (S (render (wordsOf4 n0 n1 n2 n3) (tkk n0 n1 n2 n3 t (4 + k)).1))) ?_ ?_ op_ne_str_same) (fun h => by cases h) fun _ => Ex.nil) Ex.nil) ?_
  · refine Ev.seq (Ev.call (glF N.replace) N.replace.2.callee (Evs.cons (Ev.seq (ev_item (k := ((4 + k : Nat) : Int)) (ds := (wordsOf4 n0 n1 n2 n3).map fun w => D.str (S w)) (Ev.name rfl) (Ev.ieq (Ev.binop Ev.int (Ev.name rfl) op_add) e4) (by omega) (by rw [Int.toNat_natCast]; exact wD_get (show 4 + k < 8 by omega)) (by omega)) hw4) (Evs.star (Ev.name rfl) ?_)) (replace_list (n := n + 4) N (prs n0 n1 n2 n3 t (seqT t)) [nc k] hpl (fun j => name_len P hk j) (rule_len P)) (.inl ⟨_, rfl⟩)) hfin
    rw [flatP_length, hpl]; omega
  · refine Ev.seq (ev_join (ys := ((((tkk n0 n1 n2 n3 t (4 + k)).1).map fun x => (wordsOf4 n0 n1 n2 n3).getD x []).map S)) Ev.str (words_comp (wordsOf4 n0 n1 n2 n3) (tkk n0 n1 n2 n3 t (4 + k)).1 htok (by simp) hle rfl ?_ rfl rfl rfl (by decide +kernel) (by decide +kernel) rfl (fun _ => rfl)) (fit_words _ _ hle fun x hx => word_len P (htok x hx))) (by rw [join_empty, render_flat])
    exact ev_item (k := 0) (ds := [.list (iD (tkk n0 n1 n2 n3 t (4 + k)).1), .int ((tkk n0 n1 n2 n3 t (4 + k)).2.1 : Int), .list (iD (tkk n0 n1 n2 n3 t (4 + k)).2.2)]) (ev_item (k := ((4 + k : Nat) : Int)) (ds := (tls n0 n1 n2 n3 t).map tD) (Ev.name rfl) (Ev.ieq (Ev.binop Ev.int (Ev.name rfl) op_add) e4) (by omega) (by rw [Int.toNat_natCast]; exact tD_get (by omega)) (by omega)) Ev.int (by omega) rfl (by omega)
  · exact .cons rfl (.cons rfl (.cons rfl (.cons rfl (.cons rfl (.cons rfl (.cons rfl (.cons rfl (.cons rfl .nil))))))))

theorem law_11 (N : Names C) : Ex1 (xLaw C L a cd) (n + 5) (ρ10 n0 n1 n2 n3 n4 t) (lawS 11) (.next (ρ10 n0 n1 n2 n3 n4 t)) := by
  refine Ex1.for_ (ds := (List.range 4).map fun (i : Nat) => D.int (i : Int)) (fun i => ρ10 n0 n1 n2 n3 n4 t) (it_range1 4 (glB N.range_) Ev.int (by omega)) (Sub.refl _) (.inr ⟨rfl, rfl, rfl⟩) ?_
  intro i d hd
  rw [List.getElem?_map] at hd
  by_cases hi : i < 4
  · rw [List.getElem?_range hi] at hd
    cases hd
    exact law_11_turn n0 n1 n2 n3 n4 t N i hi
  · rw [List.getElem?_eq_none (by rw [List.length_range]; omega)] at hd; cases hd

/-- the text's first thing -/
def thing (n4 : Int) : Nat := if n4.fmod 5 < 4 then (4 + n4.fmod 5).toNat else ((n4.fdiv 5).fmod 4).toNat
theorem thing_lt (n4 : Int) : thing n4 < 8 := by
  unfold thing
  have h1 := fmod_range n4 4
  have h2 := fmod_range (n4.fdiv 5) 3
  have e1 : ((4 : Nat) : Int) + 1 = 5 := rfl
  have e2 : ((3 : Nat) : Int) + 1 = 4 := rfl
  rw [e1] at h1; rw [e2] at h2
  split <;> omega
def tailOf (t : Int) : List Nat := [200, 100].take (t.fmod 3).toNat
abbrev ρ12 : Rho := ("things", .list (iD [thing n4, 7])) :: ρ10 n0 n1 n2 n3 n4 t
abbrev ρ13 : Rho := ("tail", .list (iD (tailOf t))) :: ρ12 n0 n1 n2 n3 n4 t

theorem law_12 : Ex1 (xLaw C L a cd) n (ρ10 n0 n1 n2 n3 n4 t) (lawS 12) (.next (ρ12 n0 n1 n2 n3 n4 t)) := by
  have h1 := fmod_range n4 4
  have h2 := fmod_range (n4.fdiv 5) 3
  have e1 : ((4 : Nat) : Int) + 1 = 5 := rfl
  have e2 : ((3 : Nat) : Int) + 1 = 4 := rfl
  rw [e1] at h1; rw [e2] at h2
  refine Ex1.assign (Ev.list (Evs.cons (Ev.ifexp (c := decide (n4.fmod 5 < 4)) (Tr.cmp (Ev.binop (ev_item (k := 4) (Ev.name rfl) Ev.int (by omega) rfl (by omega)) Ev.int (op_fmod (by decide))) Ev.int op_lt) (fun h => ?_) fun h => ?_) (Evs.cons Ev.int Evs.nil)) (by simp [iD])) (.inl rfl) rfl
  · have h := of_decide_eq_true h
    refine Ev.ieq (Ev.binop Ev.int (Ev.binop (ev_item (k := 4) (Ev.name rfl) Ev.int (by omega) rfl (by omega)) Ev.int (op_fmod (by decide))) op_add) ?_
    rw [thing, if_pos h]; omega
  · have h := of_decide_eq_false h
    refine Ev.ieq (Ev.binop (Ev.binop (ev_item (k := 4) (Ev.name rfl) Ev.int (by omega) rfl (by omega)) Ev.int (op_fdiv (by decide) (by decide))) Ev.int (op_fmod (by decide))) ?_
    rw [thing, if_neg h]; omega

theorem law_13 : Ex1 (xLaw C L a cd) n (ρ12 n0 n1 n2 n3 n4 t) (lawS 13) (.next (ρ13 n0 n1 n2 n3 n4 t)) := by
  have h1 := fmod_range t 2
  have e1 : ((2 : Nat) : Int) + 1 = 3 := rfl
  rw [e1] at h1
  refine Ex1.assign (Ev.leq (ev_slice (kl := none) (kh := some (((t.fmod 3).toNat : Nat) : Int)) (ds := iD [200, 100]) (Ev.list (Evs.cons Ev.int (Evs.cons Ev.int Evs.nil)) (by decide)) (True.intro : True) (Ev.ieq (Ev.binop (Ev.name rfl) Ev.int (op_fmod (by decide))) (by omega) : Ev _ _ _ _ _) (by decide)) ?_) (.inl rfl) rfl
  rw [pick_take, iD_take]; rfl
end
end Mine

namespace Mine

theorem op_eq_str_same {C : Cx} {mu : List Addr} {n : Nat} {x : Str} : Op2 C mu n (compareOp .Eq) (.str x) (.str x) (.bool true) := by
  have := op_eq_str (C := C) (mu := mu) (n := n) (a := x) (b := x)
  simpa using this
theorem op_ne_bool_same {C : Cx} {mu : List Addr} {n : Nat} {b : Bool} : Op2 C mu n (compareOp .NotEq) (.bool b) (.bool b) (.bool false) := by
  have := op_ne_bool (C := C) (mu := mu) (n := n) (a := b) (b := b)
  simpa using this
theorem Ev.beq {X : Act} {n : Nat} {ρ : Rho} {e : Expr} {i j : Bool} (h : Ev X n ρ e (.bool i)) (q : i = j) : Ev X n ρ e (.bool j) := q ▸ h

def dBeh (tl : List T) : D → List D
  | .int i => iD (tl.getD i.toNat d0).2.2
  | _ => []
def gDep (tl : List T) : D → List D
  | .int i => [.int (((tl.getD i.toNat d0).2.1 : Nat) : Int)]
  | _ => []
theorem flat_one : ∀ l : List D, l.flatMap (fun d => [d]) = l
  | [] => rfl
  | d :: l => by simp only [List.flatMap_cons]; rw [flat_one l]; rfl

def gIn (txt : List Nat) : D → List D
  | .str x => if x.cps.toList.headD 0 ∈ txt then [.str x] else []
  | _ => []
theorem gIn_all (txt : List Nat) : ∀ l : List Nat, (l.map fun c => D.str (S [c])).flatMap (gIn txt) = ((l.filter fun c => decide (c ∈ txt)).map fun c => S [c]).map D.str
  | [] => rfl
  | c :: l => by
    simp only [List.map_cons, List.flatMap_cons, gIn_all txt l, List.filter_cons]
    have : (S [c]).cps.toList.headD 0 = c := rfl
    by_cases h : c ∈ txt
    · simp [gIn, h, S]
    · simp [gIn, h, S]

section
variable {C : Cx} {n : Nat} {L a : Addr} {cd : Value} (n0 n1 n2 n3 n4 t : Int)

abbrev txt (n0 n1 n2 n3 n4 t : Int) (i : Nat) : List Nat := textAt (rulesOf n0 n1 n2 n3) (wordsOf4 n0 n1 n2 n3) (seqT t) (thing n4) (tailOf t) i
abbrev wholeOf (n0 n1 n2 n3 n4 t : Int) : List Nat := (tkk n0 n1 n2 n3 t (thing n4)).2.2 ++ (tkk n0 n1 n2 n3 t 7).2.2 ++ tailOf t
abbrev callsOf (n0 n1 n2 n3 n4 t : Int) : Nat := max (tkk n0 n1 n2 n3 t (thing n4)).2.1 (tkk n0 n1 n2 n3 t 7).2.1
theorem tail_lt (t : Int) : ∀ x ∈ tailOf t, x < 256 := fun x hx => by
  have := List.mem_of_mem_take hx
  simp only [List.mem_cons, List.not_mem_nil, or_false] at this
  omega
theorem tail_len (t : Int) : (tailOf t).length ≤ 2 := by unfold tailOf; rw [List.length_take]; simp; omega

abbrev ρ14 : Rho := ("text", .str (S (txt n0 n1 n2 n3 n4 t 0))) :: ρ13 n0 n1 n2 n3 n4 t
abbrev ρ15 : Rho := ("whole", .list (iD (wholeOf n0 n1 n2 n3 n4 t))) :: ρ14 n0 n1 n2 n3 n4 t
abbrev ρ16 : Rho := ("calls", .int ((callsOf n0 n1 n2 n3 n4 t : Nat) : Int)) :: ρ15 n0 n1 n2 n3 n4 t

theorem law_14 (N : Names C) : Ex1 (xLaw C L a cd) (n + 5) (ρ13 n0 n1 n2 n3 n4 t) (lawS 14) (.next (ρ14 n0 n1 n2 n3 n4 t)) := by
  have P := parts_ok n0 n1 n2 n3 (t.fdiv 3)
  have htok : ∀ x ∈ [thing n4, 7], x < 8 := tok_things P (thing_lt n4)
  have hrl := render_len P _ htok
  have hsl := signs_length (tailOf t)
  have htl := tail_len t
  refine Ex1.assign (Ev.seq (Ev.binop (Ev.seq (ev_join (ys := (([thing n4, 7].map fun x => (wordsOf4 n0 n1 n2 n3).getD x []).map S)) Ev.str (words_comp (wordsOf4 n0 n1 n2 n3) [thing n4, 7] htok (by simp) (by simp) rfl (Ev.name rfl) rfl rfl rfl (by decide +kernel) (by decide +kernel) rfl (fun _ => rfl)) (fit_words _ _ (by simp) fun x hx => word_len P (htok x hx))) (show _ = S (render (wordsOf4 n0 n1 n2 n3) [thing n4, 7]) by rw [join_empty, render_flat])) (Ev.call (glF N.written) N.written.2.callee (Evs.cons (Ev.name rfl) Evs.nil) (written_ok (n := n + 1) N (tailOf t) (tail_lt t) (by omega)) (.inl ⟨_, rfl⟩)) (op_add_str ?_)) (by rw [S_append]; rfl)) (.inr ⟨rfl, rfl, rfl⟩) rfl
  rw [S_length, S_length]
  simp only [List.length_cons, List.length_nil] at hrl
  omega

theorem tls_get {i : Nat} (hi : i < 8) : ((tls n0 n1 n2 n3 t).map tD)[i]? = some (tD (tkk n0 n1 n2 n3 t i)) := tD_get (by rw [tolds_length]; omega)

theorem law_15 : Ex1 (xLaw C L a cd) n (ρ14 n0 n1 n2 n3 n4 t) (lawS 15) (.next (ρ15 n0 n1 n2 n3 n4 t)) := by
  have P := parts_ok n0 n1 n2 n3 (t.fdiv 3)
  have hth := thing_lt n4
  have b1 : (tkk n0 n1 n2 n3 t (thing n4)).2.2.length ≤ 48 := (behind_le P (thing n4)).1
  have b2 : (tkk n0 n1 n2 n3 t 7).2.2.length ≤ 48 := (behind_le P 7).1
  have htl := tail_len t
  have hg0 : ((iD [thing n4, 7]).flatMap fun d => (dBeh (tls n0 n1 n2 n3 t) d).flatMap fun d' => [d']) = iD ((tkk n0 n1 n2 n3 t (thing n4)).2.2 ++ (tkk n0 n1 n2 n3 t 7).2.2) := by
    simp only [flat_one]
    rw [iD_append]
    show dBeh _ (.int ((thing n4 : Nat) : Int)) ++ (dBeh _ (.int ((7 : Nat) : Int)) ++ []) = _
    rw [List.append_nil]; rfl
  have h8 : ∀ d ∈ iD [thing n4, 7], ∃ k : Nat, k < 8 ∧ d = .int (k : Int) := by
    intro d hd
    obtain ⟨k, hk, rfl⟩ := List.mem_map.mp hd
    exact ⟨k, tok_things P hth k hk, rfl⟩
  refine Ex1.assign (Ev.leq (ev_addList (Ev.leq (ev_comp2 [(Str.ofString "answers", L + 1 + 1 + 1)] (dBeh (tls n0 n1 n2 n3 t)) (fun _ d' => [d']) (sees2 rfl rfl rfl rfl rfl (d := .list ((tls n0 n1 n2 n3 t).map tD)) (tDs_nom _) rfl (by decide +kernel) (by decide +kernel)) rfl (It.list (Ev.name rfl) rfl) (iD_nom _) rfl rfl rfl rfl (by decide +kernel) ?_ ?_ ?_ ?_) hg0) (Ev.name rfl) ?_) (by rw [← iD_append])) (.inl rfl) rfl
  · intro d hd
    obtain ⟨k, _, rfl⟩ := h8 d hd
    exact iD_nom _
  · intro d hd d' hd'
    obtain ⟨k, _, rfl⟩ := h8 d hd
    obtain ⟨b, _, rfl⟩ := List.mem_map.mp hd'
    exact ⟨trivial, trivial⟩
  · rw [hg0, iD_length, List.length_append]; omega
  · intro c l d hd
    obtain ⟨k, hk, rfl⟩ := h8 d hd
    refine ⟨It.listM (ev_item (k := 2) (ds := [.list (iD (tkk n0 n1 n2 n3 t k).1), .int ((tkk n0 n1 n2 n3 t k).2.1 : Int), .list (iD (tkk n0 n1 n2 n3 t k).2.2)]) (ev_item (k := (k : Int)) (ds := (tls n0 n1 n2 n3 t).map tD) (Ev.name rfl) (Ev.name rfl) (by omega) (by rw [Int.toNat_natCast]; exact tls_get n0 n1 n2 n3 t hk) (by omega)) Ev.int (by omega) rfl (by omega)) (iD_nom _), fun d' hd' => ?_⟩
    exact ⟨true, Tests.nil, fun _ => ⟨_, rfl, Ev.name rfl⟩, fun h => by cases h⟩
  · rw [iD_length, iD_length, List.length_append]; omega

theorem law_16 (N : Names C) : Ex1 (xLaw C L a cd) n (ρ15 n0 n1 n2 n3 n4 t) (lawS 16) (.next (ρ16 n0 n1 n2 n3 n4 t)) := by
  have P := parts_ok n0 n1 n2 n3 (t.fdiv 3)
  have hth := thing_lt n4
  have hg0 : (iD [thing n4, 7]).flatMap (gDep (tls n0 n1 n2 n3 t)) = [(((tkk n0 n1 n2 n3 t (thing n4)).2.1 : Nat) : Int), (((tkk n0 n1 n2 n3 t 7).2.1 : Nat) : Int)].map D.int := rfl
  have h8 : ∀ d ∈ iD [thing n4, 7], ∃ k : Nat, k < 8 ∧ d = .int (k : Int) := by
    intro d hd
    obtain ⟨k, hk, rfl⟩ := List.mem_map.mp hd
    exact ⟨k, tok_things P hth k hk, rfl⟩
  refine Ex1.assign (Ev.call (glB N.max_) (.inl ⟨_, rfl⟩) (Evs.cons (Ev.leq (ev_comp [(Str.ofString "answers", L + 1 + 1 + 1)] (gDep (tls n0 n1 n2 n3 t)) (sees2 rfl rfl rfl rfl rfl (d := .list ((tls n0 n1 n2 n3 t).map tD)) (tDs_nom _) rfl (by decide +kernel) (by decide +kernel)) rfl (It.list (Ev.name rfl) rfl) (iD_nom _) rfl rfl ?_ ?_ ?_) hg0) Evs.nil) (fn_maxL ?_ ?_) (.inr rfl)) (.inl rfl) rfl
  · intro d hd
    obtain ⟨k, _, rfl⟩ := h8 d hd
    exact ⟨trivial, trivial⟩
  · rw [hg0]; simp
  · intro c l d hd
    obtain ⟨k, hk, rfl⟩ := h8 d hd
    refine ⟨true, Tests.nil, fun _ => ⟨_, rfl, ?_⟩, fun h => by cases h⟩
    exact ev_item (k := 1) (ds := [.list (iD (tkk n0 n1 n2 n3 t k).1), .int ((tkk n0 n1 n2 n3 t k).2.1 : Int), .list (iD (tkk n0 n1 n2 n3 t k).2.2)]) (ev_item (k := (k : Int)) (ds := (tls n0 n1 n2 n3 t).map tD) (Ev.name rfl) (Ev.name rfl) (by omega) (by rw [Int.toNat_natCast]; exact tls_get n0 n1 n2 n3 t hk) (by omega)) Ev.int (by omega) rfl (by omega)
  · simp only [List.mem_cons, List.not_mem_nil, or_false]
    unfold callsOf; omega
  · intro x hx
    simp only [List.mem_cons, List.not_mem_nil, or_false] at hx
    unfold callsOf; omega
end
end Mine

namespace Mine

theorem depth_le {R Th W : List (List Nat)} {seq turns : List Nat} (P : Parts R Th W seq turns) : ∀ x, x < 8 → (tk R Th turns x).2.1 ≤ x := by
  refine by_q (fun x hx => ?_) fun q hq ih => ?_
  · rw [tk_low hx]; exact Nat.zero_le _
  · refine Nat.le_of_not_lt fun h => ?_
    rcases (tk_depth P.hit hq (4 + q)).mp h with h | ⟨x, hx, h⟩
    · omega
    · have h1 := P.hit q hq x hx
      have h2 := ih x h1
      split at h <;> omega

section
variable {C : Cx} {n : Nat} {L a : Addr} {cd : Value} (n0 n1 n2 n3 n4 t : Int)

theorem calls_le : callsOf n0 n1 n2 n3 n4 t ≤ 7 := by
  have P := parts_ok n0 n1 n2 n3 (t.fdiv 3)
  have hth := thing_lt n4
  have h1 := depth_le P (thing n4) hth
  have h2 := depth_le P 7 (by omega)
  unfold callsOf tkk
  show max _ _ ≤ 7
  refine Nat.max_le.mpr ⟨Nat.le_trans h1 (by omega), h2⟩

abbrev ρT (i : Nat) : Rho := [("text", .str (S (txt n0 n1 n2 n3 n4 t i))), ("calls", .int ((callsOf n0 n1 n2 n3 n4 t : Nat) : Int)), ("whole", .list (iD (wholeOf n0 n1 n2 n3 n4 t))), ("pairs", .list (flatP (prs n0 n1 n2 n3 t (seqT t)))), ("words", wD (wordsOf4 n0 n1 n2 n3))]

theorem law_17_turn (N : Names C) (i : Nat) :
    Ex (xLaw C L a cd) (n + 5) (("call", .int (i : Int)) :: ρT n0 n1 n2 n3 n4 t i) (forBody (lawS 17)) (.next (ρT n0 n1 n2 n3 n4 t (i + 1))) := by
  have P := parts_ok n0 n1 n2 n3 (t.fdiv 3)
  have hth := thing_lt n4
  have hs4 : (seqT t).length = 4 := ordSt_length _ 4
  have hpl : (prs n0 n1 n2 n3 t (seqT t)).length = 4 := by simp [pairsOf, hs4]
  have hnx : S (repAll (prs n0 n1 n2 n3 t (seqT t)) (txt n0 n1 n2 n3 n4 t i)) = S (txt n0 n1 n2 n3 n4 t (i + 1)) := by rw [txt, txt, text_next P hth (tail_lt t) i]
  refine Ex.cons (Ex1.assign (Ev.seq (Ev.call (glF N.replace) N.replace.2.callee (Evs.cons (Ev.name rfl) (Evs.star (Ev.name rfl) ?_)) (replace_list (n := n + 4) N (prs n0 n1 n2 n3 t (seqT t)) (txt n0 n1 n2 n3 n4 t i) hpl (fun j => text_len P hth (tail_lt t) (tail_len t) i j) (rule_len P)) (.inl ⟨_, rfl⟩)) hnx) (.inr ⟨rfl, rfl, rfl⟩) rfl) ?_
  · rw [flatP_length, hpl]; omega
  have hall := gIn_all (txt n0 n1 n2 n3 n4 t (i + 1)) [33, 35, 36, 37]
  have hh := text_has P hth (tail_lt t) (i + 1)
  have hb : (!(([33, 35, 36, 37].filter fun c => decide (c ∈ txt n0 n1 n2 n3 n4 t (i + 1))).map fun c => S [c]).isEmpty) = decide ((i : Int) + 1 < ((callsOf n0 n1 n2 n3 n4 t : Nat) : Int)) := by
    rw [Bool.eq_iff_iff]
    rw [decide_eq_true_iff]
    have e1 : ((i : Int) + 1 < ((callsOf n0 n1 n2 n3 n4 t : Nat) : Int)) ↔ i + 1 < callsOf n0 n1 n2 n3 n4 t := by omega
    rw [e1, ← hh]
    simp only [Bool.not_eq_true', List.isEmpty_eq_false_iff, ne_eq, List.map_eq_nil_iff, List.filter_eq_nil_iff, decide_eq_true_eq]
    constructor
    · intro h
      refine Classical.byContradiction fun hn => h fun c hc hm => hn ?_
      simp only [List.mem_cons, List.not_mem_nil, or_false] at hc
      rcases hc with rfl | rfl | rfl | rfl
      · exact ⟨0, by omega, hm⟩
      · exact ⟨1, by omega, hm⟩
      · exact ⟨2, by omega, hm⟩
      · exact ⟨3, by omega, hm⟩
    · rintro ⟨q, hq, hm⟩ h
      refine h (nc q) ?_ hm
      rcases (by omega : q = 0 ∨ q = 1 ∨ q = 2 ∨ q = 3) with rfl | rfl | rfl | rfl <;> simp [nc]
  refine Ex.sub (Ex.cons (Ex1.ite (c := false) (Tr.cmp (d1 := .bool (decide ((i : Int) + 1 < ((callsOf n0 n1 n2 n3 n4 t : Nat) : Int)))) (Ev.beq (Ev.cmp (Ev.leq (ev_comp [(Str.ofString "text", L + 1 + 1 + 1 + 1 + 1)] (gIn (txt n0 n1 n2 n3 n4 t (i + 1))) (sees2 rfl rfl rfl rfl rfl (d := .str (S (txt n0 n1 n2 n3 n4 t (i + 1)))) trivial rfl (by decide +kernel) (by decide +kernel)) rfl (It.list (Ev.leq (ev_slice (kl := some ((4 : Nat) : Int)) (kh := none) (ds := (wordsOf4 n0 n1 n2 n3).map fun w => D.str (S w)) (Ev.name rfl) (Ev.int : Ev _ _ _ _ _) (True.intro : True) (by simp)) (show _ = [33, 35, 36, 37].map fun c => D.str (S [c]) by rw [pick_drop]; rfl)) rfl) ?_ rfl rfl ?_ ?_ ?_) hall) (Ev.list Evs.nil (by decide)) (op_ne_nil ?_)) hb) (Ev.cmp (Ev.binop (Ev.name rfl) Ev.int op_add) (Ev.name rfl) op_lt) op_ne_bool_same) (fun h => by cases h) fun _ => Ex.nil) Ex.nil) ?_
  · exact ⟨trivial, trivial, trivial, trivial, trivial⟩
  · intro d hd
    obtain ⟨c, _, rfl⟩ := List.mem_map.mp hd
    show NoMs (if _ then _ else _)
    split <;> first | exact ⟨trivial, trivial⟩ | exact trivial
  · rw [hall, List.length_map, List.length_map]
    exact Nat.le_trans (List.length_filter_le _ _) (by decide)
  · intro c l d hd
    obtain ⟨x, _, rfl⟩ := List.mem_map.mp hd
    refine ⟨decide (x ∈ txt n0 n1 n2 n3 n4 t (i + 1)), Tests.one (Tr.cmp (Ev.name rfl) (Ev.name rfl) op_in_chr), fun h => ⟨_, if_pos (of_decide_eq_true h), Ev.name rfl⟩, fun h => if_neg (of_decide_eq_false h)⟩
  · intro y hy
    obtain ⟨c, hc, rfl⟩ := List.mem_map.mp hy
    have hc := (List.mem_filter.mp hc).1
    simp only [List.mem_cons, List.not_mem_nil, or_false] at hc
    rcases hc with rfl | rfl | rfl | rfl <;> decide +kernel
  · exact .cons rfl (.cons rfl (.cons rfl (.cons rfl (.cons rfl .nil))))

theorem law_17 (N : Names C) : Ex1 (xLaw C L a cd) (n + 5) (ρ16 n0 n1 n2 n3 n4 t) (lawS 17) (.next (ρT n0 n1 n2 n3 n4 t (callsOf n0 n1 n2 n3 n4 t))) := by
  have hc := calls_le n0 n1 n2 n3 n4 t
  have h : Ex1 (xLaw C L a cd) (n + 5) (ρ16 n0 n1 n2 n3 n4 t) (lawS 17) (.next (ρT n0 n1 n2 n3 n4 t ((List.range (callsOf n0 n1 n2 n3 n4 t)).map fun (i : Nat) => D.int (i : Int)).length)) := by
    refine Ex1.for_ (ds := (List.range (callsOf n0 n1 n2 n3 n4 t)).map fun (i : Nat) => D.int (i : Int)) (fun i => ρT n0 n1 n2 n3 n4 t i) (it_range1 (callsOf n0 n1 n2 n3 n4 t) (glB N.range_) (Ev.name rfl) (by omega)) (.cons rfl (.cons rfl (.cons rfl (.cons rfl (.cons rfl .nil))))) (.inl rfl) ?_
    intro i d hd
    rw [List.getElem?_map] at hd
    by_cases hi : i < callsOf n0 n1 n2 n3 n4 t
    · rw [List.getElem?_range hi] at hd
      cases hd
      exact law_17_turn n0 n1 n2 n3 n4 t N i
    · rw [List.getElem?_eq_none (by rw [List.length_range]; omega)] at hd; cases hd
  rw [List.length_map, List.length_range] at h
  exact h

theorem whole_lt : ∀ x ∈ wholeOf n0 n1 n2 n3 n4 t, x < 256 := by
  have P := parts_ok n0 n1 n2 n3 (t.fdiv 3)
  intro x hx
  rcases List.mem_append.mp hx with hx | hx
  · rcases List.mem_append.mp hx with hx | hx
    · exact (behind_len P _ (thing_lt n4)).2.2 x hx
    · exact (behind_len P 7 (by omega)).2.2 x hx
  · exact tail_lt t x hx
theorem whole_len : (wholeOf n0 n1 n2 n3 n4 t).length ≤ 1000 := by
  have P := parts_ok n0 n1 n2 n3 (t.fdiv 3)
  have b1 : (tkk n0 n1 n2 n3 t (thing n4)).2.2.length ≤ 48 := (behind_le P (thing n4)).1
  have b2 : (tkk n0 n1 n2 n3 t 7).2.2.length ≤ 48 := (behind_le P 7).1
  have htl := tail_len t
  rw [wholeOf, List.length_append, List.length_append]; omega

theorem law_18 (N : Names C) : Ex1 (xLaw C L a cd) (n + 5) (ρT n0 n1 n2 n3 n4 t (callsOf n0 n1 n2 n3 n4 t)) (lawS 18) (.ret (.bool true)) := by
  have P := parts_ok n0 n1 n2 n3 (t.fdiv 3)
  have hth := thing_lt n4
  have he : txt n0 n1 n2 n3 n4 t (callsOf n0 n1 n2 n3 n4 t) = signs (wholeOf n0 n1 n2 n3 n4 t) := text_end P hth (tail_lt t)
  have hS : S (txt n0 n1 n2 n3 n4 t (callsOf n0 n1 n2 n3 n4 t)) = S (signs (wholeOf n0 n1 n2 n3 n4 t)) := by rw [he]
  refine Ex1.ret (ev_and2 (Ev.cmp (Ev.seq (Ev.name rfl) hS) (Ev.call (glF N.written) N.written.2.callee (Evs.cons (Ev.name rfl) Evs.nil) (written_ok (n := n + 1) N (wholeOf n0 n1 n2 n3 n4 t) (whole_lt n0 n1 n2 n3 n4 t) (whole_len n0 n1 n2 n3 n4 t)) (.inl ⟨_, rfl⟩)) op_eq_str_same) (Ev.cmp (Ev.seq (Ev.name rfl) hS) (Ev.call (glF N.signs) N.signs.2.callee (Evs.cons (Ev.name rfl) Evs.nil) (signs_ok (n := n + 4) N (wholeOf n0 n1 n2 n3 n4 t) (whole_lt n0 n1 n2 n3 n4 t) (whole_len n0 n1 n2 n3 n4 t)) (.inl ⟨_, rfl⟩)) op_eq_str_same))
end
end Mine

namespace Mine
section
variable {C : Cx} {n : Nat} {L a : Addr} {cd : Value}

theorem nums_five (ns : List Int) : ∃ n0 n1 n2 n3 n4, (ns.take 5 ++ [300, 1004, 601, 806, 9]).take 5 = [n0, n1, n2, n3, n4] := by
  have h : ((ns.take 5 ++ [300, 1004, 601, 806, 9]).take 5).length = 5 := by simp
  generalize (ns.take 5 ++ [300, 1004, 601, 806, 9]).take 5 = l at h
  match l, h with
  | [a, b, c, d, e], _ => exact ⟨a, b, c, d, e, rfl⟩

theorem law_body (N : Names C) (ns : List Int) (hl : ns.length ≤ 63) : Ex (xLaw C L a cd) (n + 5) [("script", .list (ns.map D.int))] (bodyOf (stm 15)) (.ret (.bool true)) := by
  obtain ⟨n0, n1, n2, n3, n4, hn⟩ := nums_five ns
  have h0 := law_0 (C := C) (n := n + 5) (L := L) (a := a) (cd := cd) ns hl
  rw [hn] at h0
  have h1 := law_1 (C := C) (n := n + 5) (L := L) (a := a) (cd := cd) N ns (nD n0 n1 n2 n3 n4) hl
  generalize (ns.take 20).sum + 69 = t at h1
  show Ex (xLaw C L a cd) (n + 5) _ (lawS 0 :: lawS 1 :: lawS 2 :: lawS 3 :: lawS 4 :: lawS 5 :: lawS 6 :: lawS 7 :: lawS 8 :: lawS 9 :: lawS 10 :: lawS 11 :: lawS 12 :: lawS 13 :: lawS 14 :: lawS 15 :: lawS 16 :: lawS 17 :: lawS 18 :: []) _
  refine Ex.cons h0 (Ex.cons h1 (Ex.pre (ρ' := ρ2 n0 n1 n2 n3 n4 t) (.cons rfl (.cons rfl .nil)) ?_))
  refine Ex.cons (law_2 n0 n1 n2 n3 n4 t) (law_34 n0 n1 n2 n3 n4 t N ?_)
  refine Ex.cons (law_5 n0 n1 n2 n3 n4 t N) (Ex.cons (law_6 n0 n1 n2 n3 n4 t N) (Ex.cons (law_7 n0 n1 n2 n3 n4 t N) (Ex.cons (law_8 n0 n1 n2 n3 n4 t N) (law_910 n0 n1 n2 n3 n4 t ?_))))
  refine Ex.cons (law_11 n0 n1 n2 n3 n4 t N) (Ex.cons (law_12 n0 n1 n2 n3 n4 t) (Ex.cons (law_13 n0 n1 n2 n3 n4 t) (Ex.cons (law_14 n0 n1 n2 n3 n4 t N) ?_)))
  exact Ex.cons (law_15 n0 n1 n2 n3 n4 t) (Ex.cons (law_16 n0 n1 n2 n3 n4 t N) (Ex.cons (law_17 n0 n1 n2 n3 n4 t N) (Ex.stop (law_18 n0 n1 n2 n3 n4 t N))))
end
end Mine

namespace Mine

theorem rd_ints {mu : List Addr} {h : Heap} : ∀ {vs : List Value} {ns : List Int}, IntsAre vs ns → RdAll mu h vs (ns.map D.int)
  | _, _, .nil => .nil
  | _, _, .cons n t r => .cons (.int n t) (rd_ints r)

theorem law_run {C : Cx} (N : Names C) {L fa : Addr} {cd : Value} {s : Shared} {A : Around} {m : Str → Option Value} {ns : List Int} {vs : List Value} {a : Addr} {o5 o4 o3 o2 o1 : Obj} {v5 v4 v3 v2 v1 : Option Value} {Q : Flow → Shared → Prop} {E : Value → Shared → Prop}
    (hA : Ok 5 A) (hl : ns.length ≤ 63) (F : Fr C.base L s.heap m) (hm : m (Str.ofString "script") = some (.ref a)) (hL : C.base.IsList a vs.toArray) (hI : IntsAre vs ns)
    (N0 : News C.base L s.heap [(L + 1 + 1 + 1 + 1 + 1, o5), (L + 1 + 1 + 1 + 1, o4), (L + 1 + 1 + 1, o3), (L + 1 + 1, o2), (L + 1, o1)])
    (d5 : o5.data = .cell v5) (d4 : o4.data = .cell v4) (d3 : o3.data = .cell v3) (d2 : o2.data = .cell v2) (d1 : o1.data = .cell v1)
    (hQ : ∀ s', s'.gens = s.gens → s'.os = s.os → (∀ b o, C.base.get? b = some o → s'.heap.get? b = some o) → Q (.ret (.bool true)) s') :
    wpAny C.M A (execs (bodyOf (stm 15)) (callEnvC (lawFd cd) L fa)) Q E s := by
  have hcells : (callEnvC (lawFd cd) L fa).cells = [(Str.ofString "text", L + 1 + 1 + 1 + 1 + 1), (Str.ofString "words", L + 1 + 1 + 1 + 1), (Str.ofString "answers", L + 1 + 1 + 1), (Str.ofString "sequence", L + 1 + 1), (Str.ofString "name", L + 1)] := rfl
  have hfr : ∀ b ∈ (xLaw C L fa cd).own, C.base.get? b = none := by
    intro b hb
    have hb : b = L ∨ b = L + 1 + 1 + 1 + 1 + 1 ∨ b = L + 1 + 1 + 1 + 1 ∨ b = L + 1 + 1 + 1 ∨ b = L + 1 + 1 ∨ b = L + 1 := by
      have hb' : b ∈ L :: (((callEnvC (lawFd cd) L fa).cells.map (·.2)) ++ []) := hb
      rw [hcells] at hb'
      simpa using hb'
    rcases hb with rfl | rfl | rfl | rfl | rfl | rfl
    · cases q : C.base.get? b with
      | none => rfl
      | some o => exact absurd (Heap.lt_size q) (Nat.not_lt.mpr F.above)
    · exact N0.fresh (o := o5) (.head _)
    · exact N0.fresh (o := o4) (.tail _ (.head _))
    · exact N0.fresh (o := o3) (.tail _ (.tail _ (.head _)))
    · exact N0.fresh (o := o2) (.tail _ (.tail _ (.tail _ (.head _))))
    · exact N0.fresh (o := o1) (.tail _ (.tail _ (.tail _ (.tail _ (.head _)))))
  have hE : EnvOk (xLaw C L fa cd) s.heap [("script", .list (ns.map D.int))] := by
    refine { at_ := F.keep, fresh := hfr, ns := ⟨_, F.ns⟩, cells := fun p hp => ?_, oc := fun b hb => let ⟨p, hp, e⟩ := List.mem_map.mp hb; ⟨p, hp, e⟩, nodup := ?_, seqs := fun b hb => (by cases hb), kind := rfl, glob := rfl, blt := rfl, vals := fun x d hx => ?_ }
    · have hp : p ∈ (callEnvC (lawFd cd) L fa).cells := hp
      rw [hcells] at hp
      simp only [List.mem_cons, List.not_mem_nil, or_false] at hp
      rcases hp with rfl | rfl | rfl | rfl | rfl
      · exact ⟨_, o5, N0.get (by simp), d5⟩
      · exact ⟨_, o4, N0.get (by simp), d4⟩
      · exact ⟨_, o3, N0.get (by simp), d3⟩
      · exact ⟨_, o2, N0.get (by simp), d2⟩
      · exact ⟨_, o1, N0.get (by simp), d1⟩
    · show ((callEnvC (lawFd cd) L fa).cells.map (·.2)).Nodup
      rw [hcells]
      simp [List.nodup_cons]
      all_goals omega
    · have hp := mem_of_lookup hx
      rw [List.mem_singleton, Prod.mk.injEq] at hp
      obtain ⟨rfl, rfl⟩ := hp
      exact ⟨.ref a, .inl ⟨rfl, m, F.ns, hm⟩, .list (let ⟨o, ho, hc, n, hd⟩ := hL; ⟨o, F.keep _ _ ho, hc, n, hd⟩) (by simp) (rd_ints hI)⟩
  refine law_body (n := 0) (C := C) (L := L) (a := fa) (cd := cd) N ns hl A s E Q hA hE fun f s' k p => ?_
  obtain ⟨v, rfl, r⟩ := p
  cases r
  obtain ⟨h', t, rfl, kk⟩ := k
  exact hQ _ rfl rfl fun b o e => kk b o (fun hb => by rw [hfr b hb] at e; cases e) (F.keep b o e)
end Mine

namespace Mine
set_option maxHeartbeats 8000000 in
open_top hd for PySem.Challenge.rw_mr0013_01
end Mine

namespace Mine

theorem ok_caller (env : Env) : Ok 5 (callerA.deeper env) := ⟨rfl, (by show 1 + claimMargin + 1 + 5 < recursionLimit; decide +kernel), (by show 4 + 3 + 10 * 5 + 100 < cLine; decide +kernel)⟩

theorem bi_of {C : Cx} {K : Frag} {p : Program} {loose : List Str} {mean : ExcName → Option Value} (X : K.In C.base) (T : Top p loose mean C.mg C.mb C.base) {x : String} {v : Value} (e : nsIn K mainGlobals (Str.ofString x) = some none) (hn : Str.ofString x ≠ "__name__") (hb : bootBuiltins (Str.ofString x) = some v) : BI C x v :=
  ⟨mg_none_of X C.g e, (T.builtins _ hn).trans hb⟩

theorem fun_of {C : Cx} {K : Frag} (X : K.In C.base) {f : Addr} {st : Stmt} {dV kV pm : Value} {c : Addr} {o : Obj} (ho : K.lookup f = some o) (hd : o.data = .func (fdOf st dV kV pm c)) (hc : codeIn K (.ref c) (fdOf st dV kV pm c).qualname = true)
    (hcode : (fdOf st dV kV pm c).code = .ref c) (hbody : (fdOf st dV kV pm c).body = .stmts (bodyOf st)) (hg : (fdOf st dV kV pm c).globals = mainGlobals) (hb : (fdOf st dV kV pm c).builtins = builtinsNs) (hcl : (fdOf st dV kV pm c).closure = []) (hk : (fdOf st dV kV pm c).scope.kind = .function)
    (hge : (fdOf st dV kV pm c).scope.isGenerator = false) (hco : (fdOf st dV kV pm c).scope.isCoroutine = false) (hnn : ((cellsFrom 0 (fdOf st dV kV pm c).scope.names []).map (·.1)).Nodup) : Fun C f (fdOf st dV kV pm c) (bodyOf st) where
  obj := ⟨o, X _ _ ho, hd⟩
  code := by rw [hcode]; exact codeRec_of X hc
  body_ := hbody
  glob := hg
  blt := hb
  clos := hcl
  kind := hk
  gen := hge
  co := hco
  names := hnn


theorem names_of {C : Cx} {P : Params} {p : Program} {loose : List Str} {mean : ExcName → Option Value} (X : (hd.heap_39 P).In C.base) (T : Top p loose mean C.mg C.mb C.base) : Names C where
  type_ := bi_of X T (by rfl) (by decide +kernel) (by rfl)
  bytes_ := bi_of X T (by rfl) (by decide +kernel) (by rfl)
  bool_ := bi_of X T (by rfl) (by decide +kernel) (by rfl)
  range_ := bi_of X T (by rfl) (by decide +kernel) (by rfl)
  len_ := bi_of X T (by rfl) (by decide +kernel) (by rfl)
  sum_ := bi_of X T (by rfl) (by decide +kernel) (by rfl)
  max_ := bi_of X T (by rfl) (by decide +kernel) (by rfl)
  chr_ := bi_of X T (by rfl) (by decide +kernel) (by rfl)
  b64_ := ⟨_, mg_of X C.g (by rfl)⟩
  replace := ⟨mg_of X C.g (by rfl), fun_of X (by rfl) (by rfl) (by rfl) rfl rfl rfl rfl rfl rfl rfl rfl (by decide +kernel)⟩
  buffer := ⟨mg_of X C.g (by rfl), fun_of X (by rfl) (by rfl) (by rfl) rfl rfl rfl rfl rfl rfl rfl rfl (by decide +kernel)⟩
  truth := ⟨mg_of X C.g (by rfl), fun_of X (by rfl) (by rfl) (by rfl) rfl rfl rfl rfl rfl rfl rfl rfl (by decide +kernel)⟩
  b2a := ⟨mg_of X C.g (by rfl), fun_of X (by rfl) (by rfl) (by rfl) rfl rfl rfl rfl rfl rfl rfl rfl (by decide +kernel)⟩
  b64e := ⟨mg_of X C.g (by rfl), fun_of X (by rfl) (by rfl) (by rfl) rfl rfl rfl rfl rfl rfl rfl rfl (by decide +kernel)⟩
  signs := ⟨mg_of X C.g (by rfl), fun_of X (by rfl) (by rfl) (by rfl) rfl rfl rfl rfl rfl rfl rfl rfl (by decide +kernel)⟩
  written := ⟨mg_of X C.g (by rfl), fun_of X (by rfl) (by rfl) (by rfl) rfl rfl rfl rfl rfl rfl rfl rfl (by decide +kernel)⟩
  order := ⟨mg_of X C.g (by rfl), fun_of X (by rfl) (by rfl) (by rfl) rfl rfl rfl rfl rfl rfl rfl rfl (by decide +kernel)⟩
  told := ⟨mg_of X C.g (by rfl), fun_of X (by rfl) (by rfl) (by rfl) rfl rfl rfl rfl rfl rfl rfl rfl (by decide +kernel)⟩
  dflt := ⟨_, _, X _ _ (by rfl), by rfl⟩
end Mine

set_option maxHeartbeats 8000000 in
theorem PySem.Challenge.cw_mr0013_01_holds : PySem.Challenge.rw_mr0013_01.Holds := by
  refine Mine.hd ?_
  k_go0
  rename_i w s₀ s₁ mg mb G Y fa o pm doc ho hg KX X V GL T B TE TW mc mo M cc ca hcd ns hs hlay0 hLy hr0 hl2 as9 as8 a vs as5 hL ra w1 r0 hI hr hc1 hc2 K0 hD h₁ tk₁ F o5 o4 o3 o2 o1 d5 d4 d3 d2 d1 N0 X0
  have N : Mine.Names ⟨PySem.Challenge.rw_mr0013_01.row.prog, w, s₁.heap, mg, mb, T.g, T.b, T.nolimit⟩ := Mine.names_of (P := w.params) KX T
  have hl : ns.length ≤ 63 := by omega
  refine Mine.law_run (C := ⟨PySem.Challenge.rw_mr0013_01.row.prog, w, s₁.heap, mg, mb, T.g, T.b, T.nolimit⟩) N (L := s₁.heap.objs.size) (fa := fa) (cd := .ref cc) (Mine.ok_caller _) hl F rfl hL hI N0 d5 d4 d3 d2 d1 ?_
  intro s' hgs hos hk
  refine ⟨.inl ⟨_, _, [], rfl, fun _ => rfl, ReadsW.bool true, ?_, fun _ => ⟨List.nodup_nil, fun _ hm => (nomatch hm)⟩⟩, hk, hos, hgs.trans hg⟩
  wrow_post
