import PyProof.Rows.All
import Wide.All
import OpenK.AllK
import Wide.FinOn
import PySem.Challenge.RW_mj0341_02
set_option Elab.async false
set_option maxRecDepth 100000
set_option linter.all false
namespace Mine
open PySem PyProof.Rows

/-! growth of the heap -/
def Kp (h h' : Heap) : Prop := ∀ b o, h.get? b = some o → h'.get? b = some o
theorem Kp.rf {h : Heap} : Kp h h := fun _ _ e => e
theorem Kp.tr {a b c : Heap} (x : Kp a b) (y : Kp b c) : Kp a c := fun p o e => y p o (x p o e)
theorem Kp.push (h : Heap) (o : Obj) : Kp h (h.push o) := fun _ _ e => Heap.get?_push_of_some o e
theorem Kp.none_of {h h' : Heap} (k : Kp h h') : h.get? h'.objs.size = none := by
  cases e : h.get? h'.objs.size with
  | none => rfl
  | some o => exact absurd (Heap.lt_size (k _ _ e)) (Nat.lt_irrefl _)

def isSeq (o : Obj) : Bool := match o.data with | .seq _ _ => true | _ => false
/-- all lists and tuples are kept -/
def Ks (h h' : Heap) : Prop := ∀ b o, h.get? b = some o → isSeq o = true → h'.get? b = some o
theorem Kp.ks {h h' : Heap} (k : Kp h h') : Ks h h' := fun b o e _ => k b o e
theorem Ks.rf {h : Heap} : Ks h h := fun _ _ e _ => e
theorem Ks.tr {a b c : Heap} (x : Ks a b) (y : Ks b c) : Ks a c := fun p o e q => y p o (x p o e q) q

theorem ks_of_sameBut {h h' : Heap} {a : Addr} (hs : Heap.SameBut a h h') (ho : ∀ o, h.get? a = some o → isSeq o = false) : Ks h h' := by
  intro b o e q
  by_cases hb : b = a
  · subst hb; rw [ho o e] at q; cases q
  · exact (hs.2 b hb).trans e

/-! what is known of a value -/
structure VP where
  p : Heap → Value → Prop
  up : ∀ h h' v, Kp h h' → p h v → p h' v

def Sq (P : VP) : Prop := ∀ h h' v, Ks h h' → P.p h v → P.p h' v
def Flat (P : VP) : Prop := ∀ h h' v, P.p h v → P.p h' v
theorem Flat.sq {P : VP} (f : Flat P) : Sq P := fun h h' v _ x => f h h' v x

def vi (i : Int) : VP := ⟨fun _ v => ∃ t, v = .int i t, fun _ _ _ _ x => x⟩
def vs (x : Str) : VP := ⟨fun _ v => ∃ t, v = .str x t, fun _ _ _ _ x => x⟩
def vb (b : Bool) : VP := ⟨fun _ v => v = .bool b, fun _ _ _ _ x => x⟩
def vn : VP := ⟨fun _ v => v = .none, fun _ _ _ _ x => x⟩
def vr (a : Addr) : VP := ⟨fun _ v => v = .ref a, fun _ _ _ _ x => x⟩
def vx (v₀ : Value) : VP := ⟨fun _ v => v = v₀, fun _ _ _ _ x => x⟩

def All2 (h : Heap) : List Value → List VP → Prop
  | [], [] => True
  | v :: vs, P :: Ps => P.p h v ∧ All2 h vs Ps
  | _, _ => False

theorem All2.up {h h' : Heap} (k : Kp h h') : ∀ {vs : List Value} {Ps : List VP}, All2 h vs Ps → All2 h' vs Ps
  | [], [], _ => trivial
  | _ :: _, P :: _, ⟨x, r⟩ => ⟨P.up _ _ _ k x, All2.up k r⟩
theorem All2.sq {h h' : Heap} (k : Ks h h') : ∀ {vs : List Value} {Ps : List VP}, (∀ P ∈ Ps, Sq P) → All2 h vs Ps → All2 h' vs Ps
  | [], [], _, _ => trivial
  | _ :: _, P :: _, s, ⟨x, r⟩ => ⟨s P (.head _) _ _ _ k x, All2.sq k (fun Q hQ => s Q (.tail _ hQ)) r⟩
theorem All2.length {h : Heap} : ∀ {vs : List Value} {Ps : List VP}, All2 h vs Ps → vs.length = Ps.length
  | [], [], _ => rfl
  | _ :: vs, _ :: Ps, ⟨_, r⟩ => by simp [All2.length r]
theorem All2.get {h : Heap} : ∀ {vs : List Value} {Ps : List VP}, All2 h vs Ps → ∀ {i : Nat} {v : Value}, vs[i]? = some v → ∃ P, Ps[i]? = some P ∧ P.p h v
  | [], [], _, i, v, e => by simp at e
  | x :: vs, P :: Ps, ⟨a, r⟩, 0, v, e => ⟨P, rfl, by simp at e; exact e ▸ a⟩
  | x :: vs, P :: Ps, ⟨a, r⟩, i + 1, v, e => by
    obtain ⟨Q, e1, e2⟩ := All2.get r (i := i) (v := v) (by simpa using e)
    exact ⟨Q, by simpa using e1, e2⟩
theorem All2.get' {h : Heap} : ∀ {vs : List Value} {Ps : List VP}, All2 h vs Ps → ∀ {i : Nat} {P : VP}, Ps[i]? = some P → ∃ v, vs[i]? = some v ∧ P.p h v
  | [], [], _, i, v, e => by simp at e
  | x :: vs, P :: Ps, ⟨a, r⟩, 0, v, e => ⟨x, rfl, by simp at e; exact e ▸ a⟩
  | x :: vs, P :: Ps, ⟨a, r⟩, i + 1, v, e => by
    obtain ⟨Q, e1, e2⟩ := All2.get' r (i := i) (P := v) (by simpa using e)
    exact ⟨Q, by simpa using e1, e2⟩
theorem All2.append {h : Heap} : ∀ {vs : List Value} {Ps : List VP} {us : List Value} {Qs : List VP}, All2 h vs Ps → All2 h us Qs → All2 h (vs ++ us) (Ps ++ Qs)
  | [], [], _, _, _, b => b
  | _ :: _, _ :: _, _, _, ⟨x, r⟩, b => ⟨x, All2.append r b⟩
theorem All2.of_get {h : Heap} : ∀ {vs : List Value} {Ps : List VP}, vs.length = Ps.length → (∀ (i : Nat) (v : Value) (P : VP), vs[i]? = some v → Ps[i]? = some P → P.p h v) → All2 h vs Ps
  | [], [], _, _ => trivial
  | x :: vs, P :: Ps, hl, hg => ⟨hg 0 x P rfl rfl, All2.of_get (by simpa using hl) fun i v P e1 e2 => hg (i + 1) v P (by simpa using e1) (by simpa using e2)⟩

theorem isList_ks {h h' : Heap} {a : Addr} {items : Array Value} (k : Ks h h') (x : h.IsList a items) : h'.IsList a items := by
  obtain ⟨o, ho, hc, n, hd⟩ := x
  exact ⟨o, k a o ho (by simp [isSeq, hd]), hc, n, hd⟩
theorem isTup_ks {h h' : Heap} {a : Addr} {items : Array Value} (k : Ks h h') (x : h.IsTuple a items) : h'.IsTuple a items := by
  obtain ⟨o, ho, hc, n, hd⟩ := x
  exact ⟨o, k a o ho (by simp [isSeq, hd]), hc, n, hd⟩

def vl (Ps : List VP) : VP := ⟨fun h v => ∃ (a : Addr) (us : List Value), v = .ref a ∧ h.IsList a us.toArray ∧ All2 h us Ps,
  fun _ _ _ k ⟨a, us, e, l, x⟩ => ⟨a, us, e, isList_ks k.ks l, x.up k⟩⟩
def vt (Ps : List VP) : VP := ⟨fun h v => ∃ (a : Addr) (us : List Value), v = .ref a ∧ h.IsTuple a us.toArray ∧ All2 h us Ps,
  fun _ _ _ k ⟨a, us, e, l, x⟩ => ⟨a, us, e, isTup_ks k.ks l, x.up k⟩⟩

theorem flat_vi (i : Int) : Flat (vi i) := fun _ _ _ x => x
theorem flat_vs (x : Str) : Flat (vs x) := fun _ _ _ x => x
theorem flat_vb (b : Bool) : Flat (vb b) := fun _ _ _ x => x
theorem flat_vn : Flat vn := fun _ _ _ x => x
theorem flat_vr (a : Addr) : Flat (vr a) := fun _ _ _ x => x
theorem flat_vx (v : Value) : Flat (vx v) := fun _ _ _ x => x
theorem sq_vl {Ps : List VP} (hs : ∀ P ∈ Ps, Sq P) : Sq (vl Ps) := fun _ _ _ k ⟨a, us, e, l, x⟩ => ⟨a, us, e, isList_ks k l, x.sq k hs⟩

/-! names -/
def Loc (env : Env) (h : Heap) (x : Str) (v : Value) : Prop :=
  (env.kindOf x = some .local ∧ ∃ m, h.Ns env.locals m ∧ m x = some v) ∨
  (env.kindOf x = some .cell ∧ ∃ c, env.cells.lookup x = some c ∧ h.IsCell c (some v)) ∨
  (env.kindOf x = some .free ∧ (x == ("__classdict__" : Str)) = false ∧ ∃ c, env.cells.lookup x = some c ∧ h.IsCell c (some v))

theorem Loc.up {env : Env} {h h' : Heap} {x : Str} {v : Value} (k : Kp h h') : Loc env h x v → Loc env h' x v
  | .inl ⟨a, m, n, e⟩ => .inl ⟨a, m, n.keeps k, e⟩
  | .inr (.inl ⟨a, c, l, e⟩) => .inr (.inl ⟨a, c, l, e.keeps k⟩)
  | .inr (.inr ⟨a, d, c, l, e⟩) => .inr (.inr ⟨a, d, c, l, e.keeps k⟩)

def Vars (env : Env) (G : List (Str × VP)) (h : Heap) : Prop := ∀ x P, G.lookup x = some P → ∃ v, Loc env h x v ∧ P.p h v
theorem Vars.up {env : Env} {G : List (Str × VP)} {h h' : Heap} (k : Kp h h') (x : Vars env G h) : Vars env G h' := fun y P e =>
  let ⟨v, l, p⟩ := x y P e; ⟨v, l.up k, P.up _ _ _ k p⟩

/-- what the start gives and nothing changes -/
structure Base (mg mb : Str → Option Value) (h : Heap) : Prop where
  g : h.Ns mainGlobals mg
  b : h.Ns builtinsNs mb
  nolimit : h.NoLimit
  bb : ∀ x : Str, x ≠ "__name__" → mb x = bootBuiltins x

structure EnvOk (env : Env) : Prop where
  k : env.scope.kind = .function
  g : env.globals = mainGlobals
  b : env.builtins = builtinsNs

section
variable (prog : Program) (w : World) (base : Heap) (A : Around) (env : Env) (G : List (Str × VP))

abbrev K1 (s : Shared) (Q : Value → Shared → Prop) (R : VP) : Prop := ∀ v h' tk, Kp s.heap h' → R.p h' v → Q v { s with heap := h', toks := tk }

def PE (e : Expr) (R : VP) : Prop := ∀ (s : Shared) (Q : Value → Shared → Prop) (E : Value → Shared → Prop), Kp base s.heap → Vars env G s.heap →
  K1 s Q R → wpAny (model prog w) A (eval e env) Q E s

def PT (e : Expr) (b : Bool) : Prop := ∀ (s : Shared) (Q : Bool → Shared → Prop) (E : Value → Shared → Prop), Kp base s.heap → Vars env G s.heap →
  (∀ h' tk, Kp s.heap h' → Q b { s with heap := h', toks := tk }) → wpAny (model prog w) A (isTrue e env (eval e env)) Q E s

def PA (pos : Pos) (args : List Expr) (Ps : List VP) : Prop := (starEach args env).any (·.1) = false ∧
  ∀ (s : Shared) (Q : List Value → Shared → Prop) (E : Value → Shared → Prop), Kp base s.heap → Vars env G s.heap →
    (∀ us h' tk, Kp s.heap h' → All2 h' us Ps → Q us { s with heap := h', toks := tk }) → wpAny (model prog w) A (spliced (backTo pos (starEach args env))) Q E s

/-- a call of f -/
def Does (f : Value) (Ps : List VP) (R : VP) : Prop := ∀ (s : Shared) (us : List Value) (Q : Value → Shared → Prop) (E : Value → Shared → Prop), Kp base s.heap → All2 s.heap us Ps →
  K1 s Q R → wpAny (model prog w) A (call f us) Q E s

def OpB (op : Operator) (P1 P2 R : VP) : Prop := ∀ (s : Shared) (v1 v2 : Value) (Q : Value → Shared → Prop) (E : Value → Shared → Prop), Kp base s.heap → P1.p s.heap v1 → P2.p s.heap v2 →
  K1 s Q R → wpAny (model prog w) A (binaryOp op v1 v2) Q E s
def OpI (op : Operator) (P1 P2 R : VP) : Prop := ∀ (s : Shared) (v1 v2 : Value) (Q : Value → Shared → Prop) (E : Value → Shared → Prop), Kp base s.heap → P1.p s.heap v1 → P2.p s.heap v2 →
  K1 s Q R → wpAny (model prog w) A (inplaceOp op v1 v2) Q E s
def OpC (op : CmpOp) (P1 P2 : VP) (b : Bool) : Prop := ∀ (s : Shared) (v1 v2 : Value) (Q : Value → Shared → Prop) (E : Value → Shared → Prop), Kp base s.heap → P1.p s.heap v1 → P2.p s.heap v2 →
  K1 s Q (vb b) → wpAny (model prog w) A (compareOp op v1 v2) Q E s
def Tr (P : VP) (b : Bool) : Prop := ∀ (s : Shared) (v : Value) (Q : Bool → Shared → Prop) (E : Value → Shared → Prop), Kp base s.heap → P.p s.heap v →
  (∀ h' tk, Kp s.heap h' → Q b { s with heap := h', toks := tk }) → wpAny (model prog w) A (truthy v) Q E s
def Gi (P1 P2 R : VP) : Prop := ∀ (s : Shared) (v1 v2 : Value) (Q : Value → Shared → Prop) (E : Value → Shared → Prop), Kp base s.heap → P1.p s.heap v1 → P2.p s.heap v2 →
  K1 s Q R → wpAny (model prog w) A (getItem v1 v2) Q E s
end

section
variable {prog : Program} {w : World} {base : Heap} {A : Around} {env : Env} {G : List (Str × VP)}

theorem PE.weaken {e : Expr} {R R' : VP} (x : PE prog w base A env G e R) (h : ∀ hp v, R.p hp v → R'.p hp v) : PE prog w base A env G e R' :=
  fun s Q E hb hv k => x s Q E hb hv fun v h' tk kk r => k v h' tk kk (h _ _ r)

theorem PE.cint {i : Int} {k : Nat} {pos : Pos} : PE prog w base A env G (.Constant (.int i) k pos) (vi i) := fun _ _ _ _ _ k => wpAny_Constant_int (k _ _ _ Kp.rf ⟨_, rfl⟩)
theorem PE.cstr {x : Str} {k : Nat} {pos : Pos} : PE prog w base A env G (.Constant (.str x) k pos) (vs x) := fun _ _ _ _ _ k => Calls.Constant_str (k _ _ _ Kp.rf ⟨_, rfl⟩)
theorem PE.cnone {k : Nat} {pos : Pos} : PE prog w base A env G (.Constant .none k pos) vn := fun s _ _ _ _ k => Constant_none (k .none s.heap s.toks Kp.rf rfl)
theorem PE.cbool {b : Bool} {k : Nat} {pos : Pos} : PE prog w base A env G (.Constant (.bool b) k pos) (vb b) := fun s _ _ _ _ k => Constant_bool (k (.bool b) s.heap s.toks Kp.rf rfl)

theorem PE.name {x : Str} {pos : Pos} {P : VP} (ok : EnvOk env) (hl : G.lookup x = some P) (hd : (x == ("__debug__" : Str)) = false) : PE prog w base A env G (.Name x pos) P := by
  intro s Q E hb hv k
  obtain ⟨v, l, p⟩ := hv x P hl
  refine wpAny_Name ?_ hd
  rcases l with ⟨hk, m, n, e⟩ | ⟨hk, c, l, e⟩ | ⟨hk, hc, c, l, e⟩
  · exact wpAny_loadName_local ok.k hk n e (k v s.heap s.toks Kp.rf p)
  · exact wpAny_loadName_cell ok.k hk l e (k v s.heap s.toks Kp.rf p)
  · exact wpAny_loadName_free ok.k hk l e (k v s.heap s.toks Kp.rf p) hc

theorem PE.glob {mg mb : Str → Option Value} {x : Str} {pos : Pos} {v : Value} (ok : EnvOk env) (B : Base mg mb base) (hx : env.kindOf x = some .globalImplicit) (hv : mg x = some v)
    (hd : (x == ("__debug__" : Str)) = false) : PE prog w base A env G (.Name x pos) (vx v) := by
  intro s Q E hb hv' k
  refine Calls.Name_function_global ok.k hx (Calls.loadGlobal_global (mg := mg) (v := v) ?_ hv (k v s.heap s.toks Kp.rf rfl)) hd
  rw [ok.g]; exact B.g.keeps hb
theorem PE.built {mg mb : Str → Option Value} {x : Str} {pos : Pos} {v : Value} (ok : EnvOk env) (B : Base mg mb base) (hx : env.kindOf x = some .globalImplicit) (hg : mg x = none) (hv : bootBuiltins x = some v)
    (hn : x ≠ "__name__") (hd : (x == ("__debug__" : Str)) = false) : PE prog w base A env G (.Name x pos) (vx v) := by
  intro s Q E hb hv' k
  refine Calls.Name_function_global ok.k hx (Calls.loadGlobal_builtin (mg := mg) (mb := mb) (v := v) ?_ hg ?_ ((B.bb x hn).trans hv) (k v s.heap s.toks Kp.rf rfl)) hd
  · rw [ok.g]; exact B.g.keeps hb
  · rw [ok.b]; exact B.b.keeps hb

theorem PE.bin {l r : Expr} {op : Operator} {pos : Pos} {P1 P2 R : VP} (hl : PE prog w base A env G l P1) (hr : PE prog w base A env G r P2) (ho : OpB prog w base A op P1 P2 R) :
    PE prog w base A env G (.BinOp l op r pos) R := by
  intro s Q E hb hv k
  refine wpAny_BinOp (hl s _ E hb hv fun v1 h1 t1 k1 p1 => ?_)
  refine hr _ _ E (hb.tr k1) (hv.up k1) fun v2 h2 t2 k2 p2 => ?_
  exact ho _ v1 v2 _ _ (hb.tr (k1.tr k2)) (P1.up _ _ _ k2 p1) p2 fun v h' tk kk r => k v h' tk (k1.tr (k2.tr kk)) r

theorem PE.cmp {l r : Expr} {op : CmpOp} {pos : Pos} {P1 P2 : VP} {b : Bool} (hl : PE prog w base A env G l P1) (hr : PE prog w base A env G r P2) (ho : OpC prog w base A op P1 P2 b)
    (hm : behindInMarks op r = false) : PE prog w base A env G (.Compare l [op] [r] pos) (vb b) := by
  intro s Q E hb hv k
  refine wpAny_Compare1 (hl s _ E hb hv fun v1 h1 t1 k1 p1 => ?_) hm
  refine hr _ _ E (hb.tr k1) (hv.up k1) fun v2 h2 t2 k2 p2 => ?_
  exact ho _ v1 v2 _ _ (hb.tr (k1.tr k2)) (P1.up _ _ _ k2 p1) p2 fun v h' tk kk r => k v h' tk (k1.tr (k2.tr kk)) r

theorem PT.cmp {l r : Expr} {op : CmpOp} {pos : Pos} {P1 P2 : VP} {b : Bool} (hl : PE prog w base A env G l P1) (hr : PE prog w base A env G r P2) (ho : OpC prog w base A op P1 P2 b)
    (hm : behindInMarks op r = false) : PT prog w base A env G (.Compare l [op] [r] pos) b := by
  intro s Q E hb hv k
  refine wpAny_isTrue_Compare1 (hl s _ E hb hv fun v1 h1 t1 k1 p1 => ?_) hm
  refine hr _ _ E (hb.tr k1) (hv.up k1) fun v2 h2 t2 k2 p2 => ?_
  refine ho _ v1 v2 _ _ (hb.tr (k1.tr k2)) (P1.up _ _ _ k2 p1) p2 fun v h' tk kk r => ?_
  have e : v = .bool b := r
  subst e
  exact wpAny_truthy_bool (k h' tk (k1.tr (k2.tr kk)))

theorem PT.and_nil {pos : Pos} : PT prog w base A env G (.BoolOp .And [] pos) true := fun s _ _ _ _ k => isTrue_and_nil (k s.heap s.toks Kp.rf)
theorem PT.or_nil {pos : Pos} : PT prog w base A env G (.BoolOp .Or [] pos) false := fun s _ _ _ _ k => isTrue_or_nil (k s.heap s.toks Kp.rf)
theorem PT.and {x : Expr} {rest : List Expr} {pos : Pos} {b c : Bool} (hx : PT prog w base A env G x b) (hr : b = true → PT prog w base A env G (.BoolOp .And rest pos) c) :
    PT prog w base A env G (.BoolOp .And (x :: rest) pos) (b && c) := by
  intro s Q E hb hv k
  refine isTrue_and (hx s _ E hb hv fun h1 t1 k1 => ?_)
  cases b with
  | true => exact hr rfl _ _ E (hb.tr k1) (hv.up k1) fun h2 t2 k2 => k h2 t2 (k1.tr k2)
  | false => exact k h1 t1 k1
theorem PT.or {x : Expr} {rest : List Expr} {pos : Pos} {b c : Bool} (hx : PT prog w base A env G x b) (hr : b = false → PT prog w base A env G (.BoolOp .Or rest pos) c) :
    PT prog w base A env G (.BoolOp .Or (x :: rest) pos) (b || c) := by
  intro s Q E hb hv k
  refine isTrue_or (hx s _ E hb hv fun h1 t1 k1 => ?_)
  cases b with
  | false => exact hr rfl _ _ E (hb.tr k1) (hv.up k1) fun h2 t2 k2 => k h2 t2 (k1.tr k2)
  | true => exact k h1 t1 k1
theorem PT.not {x : Expr} {pos : Pos} {b : Bool} (hx : PT prog w base A env G x b) : PT prog w base A env G (.UnaryOp .Not x pos) (!b) := by
  intro s Q E hb hv k
  exact isTrue_not (hx s _ E hb hv fun h1 t1 k1 => k h1 t1 k1)
theorem PT.plain {e : Expr} {P : VP} {b : Bool} (hx : PE prog w base A env G e P) (ht : Tr prog w base A P b)
    (he : isTrue e env (eval e env) = (do let v ← eval e env; standAt e.pos; holding [v] (truthy v))) : PT prog w base A env G e b := by
  intro s Q E hb hv k
  refine isTrue_plain (hx s _ E hb hv fun v h1 t1 k1 p1 => ?_) he
  exact ht _ v _ _ (hb.tr k1) p1 fun h' tk kk => k h' tk (k1.tr kk)

theorem PE.ite {test body orelse : Expr} {pos : Pos} {b : Bool} {R : VP} (ht : PT prog w base A env G test b) (h1 : b = true → PE prog w base A env G body R) (h0 : b = false → PE prog w base A env G orelse R) :
    PE prog w base A env G (.IfExp test body orelse pos) R := by
  intro s Q E hb hv k
  refine IfExp_ (ht s _ E hb hv fun h' tk k1 => ?_)
  cases b with
  | true => exact h1 rfl _ _ E (hb.tr k1) (hv.up k1) fun v h2 t2 k2 r => k v h2 t2 (k1.tr k2) r
  | false => exact h0 rfl _ _ E (hb.tr k1) (hv.up k1) fun v h2 t2 k2 r => k v h2 t2 (k1.tr k2) r

theorem PE.orElse {e₁ e₂ : Expr} {pos : Pos} {P : VP} {b : Bool} {R : VP} (h₁ : PE prog w base A env G e₁ P) (ht : Tr prog w base A P b) (hP : b = true → ∀ h v, P.p h v → R.p h v)
    (h₂ : b = false → PE prog w base A env G e₂ R) : PE prog w base A env G (.BoolOp .Or [e₁, e₂] pos) R := by
  intro s Q E hb hv k
  refine BoolOp_or (h₁ s _ E hb hv fun v h1 t1 k1 p1 => ht _ v _ _ (hb.tr k1) p1 fun h2 t2 k2 => ?_)
  cases b with
  | true => exact k v h2 t2 (k1.tr k2) (hP rfl _ _ (P.up _ _ _ k2 p1))
  | false => exact BoolOp_one (h₂ rfl _ _ E (hb.tr (k1.tr k2)) (hv.up (k1.tr k2)) fun v h3 t3 k3 r => k v h3 t3 (k1.tr (k2.tr k3)) r)

theorem PE.neg {pos pos' : Pos} {k : Nat} {i : Int} : PE prog w base A env G (.UnaryOp .USub (.Constant (.int i) k pos') pos) (vi (-i)) := by
  intro s Q E hb hv k
  refine UnaryOp_ (wpAny_Constant_int ?_)
  exact neg_int (k _ _ _ Kp.rf ⟨_, rfl⟩)

theorem PA.nil {pos : Pos} : PA prog w base A env G pos [] [] := ⟨rfl, fun s _ _ _ _ k => Calls.spliced_nil (k [] s.heap s.toks Kp.rf trivial)⟩
theorem PA.cons {pos : Pos} {e : Expr} {rest : List Expr} {P : VP} {Ps : List VP} (he : PE prog w base A env G e P) (hr : PA prog w base A env G pos rest Ps)
    (hs : starEach (e :: rest) env = (false, eval e env) :: starEach rest env) : PA prog w base A env G pos (e :: rest) (P :: Ps) := by
  refine ⟨by rw [hs]; simpa using hr.1, fun s Q E hb hv k => ?_⟩
  rw [hs]
  show wpAny _ _ (spliced ((false, eval e env) :: backTo pos (starEach rest env))) _ _ s
  refine Calls.spliced_cons (he s _ E hb hv fun v h1 t1 k1 p1 => ?_)
  exact hr.2 _ _ E (hb.tr k1) (hv.up k1) fun us h2 t2 k2 x => k (v :: us) h2 t2 (k1.tr k2) ⟨P.up _ _ _ k2 p1, x⟩

theorem backTo_any (pos : Pos) : ∀ l : List (Bool × Sem Value), (backTo pos l).any (·.1) = l.any (·.1)
  | [] => rfl
  | (b, t) :: r => by
    have ih := backTo_any pos r
    simp only [backTo, List.map_cons, List.any_cons] at ih ⊢
    rw [ih]

theorem PE.list {elts : List Expr} {pos : Pos} {Ps : List VP} (h : PA prog w base A env G pos elts Ps) (hz : Ps.length ≤ sizeLine) : PE prog w base A env G (.List elts pos) (vl Ps) := by
  intro s Q E hb hv k
  refine List_ (h.2 s _ E hb hv fun us h1 t1 k1 x => ?_)
  refine wpAny_newObj_type (k _ _ _ (k1.tr (Kp.push _ _)) ⟨_, us, rfl, ⟨_, Heap.get?_push_size _ rfl, rfl, _, rfl⟩, x.up (Kp.push _ _)⟩) ?_
  show us.toArray.size ≤ sizeLine
  rw [List.size_toArray, x.length]; exact hz
theorem PE.tup {elts : List Expr} {c : Nat} {pos : Pos} {Ps : List VP} (h : PA prog w base A env G pos elts Ps) (hz : Ps.length ≤ sizeLine) : PE prog w base A env G (.Tuple elts c pos) (vt Ps) := by
  intro s Q E hb hv k
  refine Tuple_ (h.2 s _ E hb hv fun us h1 t1 k1 x => ?_)
  refine wpAny_newObj_type (k _ _ _ (k1.tr (Kp.push _ _)) ⟨_, us, rfl, ⟨_, Heap.get?_push_size _ rfl, rfl, _, rfl⟩, x.up (Kp.push _ _)⟩) ?_
  show us.toArray.size ≤ sizeLine
  rw [List.size_toArray, x.length]; exact hz

/-- a call by a name: a builtin, a type or a def of the text -/
theorem PE.callB {x : Str} {p pos : Pos} {e : Expr} {rest : List Expr} {id : String} {Ps : List VP} {R : VP} (hf : PE prog w base A env G (.Name x p) (vx (.builtin id)))
    (ha : PA prog w base A env G pos (e :: rest) Ps) (hs : starEach (e :: rest) env = (false, eval e env) :: starEach rest env) (hd : Does prog w base A (.builtin id) Ps R) :
    PE prog w base A env G (.Call (.Name x p) (e :: rest) [] pos) R := by
  intro s Q E hb hv k
  refine Call_Name rfl (hf s _ E hb hv fun v h1 t1 k1 r => ?_)
  have e1 : v = .builtin id := r
  subst e1
  refine Calls.callWith_builtin (by rw [backTo_any]; exact ha.1) ?_
  have hA := ha.2 { s with heap := h1, toks := t1 } (fun us s₁ => wpAny (model prog w) A (call (.builtin id) us) Q E s₁) E (hb.tr k1) (hv.up k1)
    fun us h2 t2 k2 x => hd _ us _ _ (hb.tr (k1.tr k2)) x fun v h' tk kk r => k v h' tk (k1.tr (k2.tr kk)) r
  rw [hs] at hA ⊢
  exact Calls.evalArgs_plain hA
theorem PE.callT {x : Str} {p pos : Pos} {e : Expr} {rest : List Expr} {T : String} {Ps : List VP} {R : VP} (hf : PE prog w base A env G (.Name x p) (vx (.type T)))
    (ha : PA prog w base A env G pos (e :: rest) Ps) (hs : starEach (e :: rest) env = (false, eval e env) :: starEach rest env) (hd : Does prog w base A (.type T) Ps R) :
    PE prog w base A env G (.Call (.Name x p) (e :: rest) [] pos) R := by
  intro s Q E hb hv k
  refine Call_Name rfl (hf s _ E hb hv fun v h1 t1 k1 r => ?_)
  have e1 : v = .type T := r
  subst e1
  refine PyProof.Rows.callWith_type (by rw [backTo_any]; exact ha.1) ?_
  have hA := ha.2 { s with heap := h1, toks := t1 } (fun us s₁ => wpAny (model prog w) A (call (.type T) us) Q E s₁) E (hb.tr k1) (hv.up k1)
    fun us h2 t2 k2 x => hd _ us _ _ (hb.tr (k1.tr k2)) x fun v h' tk kk r => k v h' tk (k1.tr (k2.tr kk)) r
  rw [hs] at hA ⊢
  exact Calls.evalArgs_plain hA
theorem PE.callF {x : Str} {p pos : Pos} {e : Expr} {rest : List Expr} {f : Addr} {o : Obj} {fd : FuncData} {Ps : List VP} {R : VP} (ho : base.get? f = some o) (hdat : o.data = .func fd)
    (hf : PE prog w base A env G (.Name x p) (vx (.ref f)))
    (ha : PA prog w base A env G pos (e :: rest) Ps) (hs : starEach (e :: rest) env = (false, eval e env) :: starEach rest env) (hd : Does prog w base A (.ref f) Ps R) :
    PE prog w base A env G (.Call (.Name x p) (e :: rest) [] pos) R := by
  intro s Q E hb hv k
  refine Call_Name rfl (hf s _ E hb hv fun v h1 t1 k1 r => ?_)
  have e1 : v = .ref f := r
  subst e1
  refine Calls.callWith_function (o := o) (fd := fd) ?_
  have hA := ha.2 { s with heap := h1, toks := t1 } (fun us s₁ => (s₁.heap.get? f = some o ∧ o.data = .func fd) ∧ wpAny (model prog w) A (call (.ref f) us) Q E s₁) E (hb.tr k1) (hv.up k1)
    fun us h2 t2 k2 x => ⟨⟨k2 _ _ (k1 _ _ (hb _ _ ho)), hdat⟩, hd _ us _ _ (hb.tr (k1.tr k2)) x fun v h' tk kk r => k v h' tk (k1.tr (k2.tr kk)) r⟩
  rw [hs] at hA ⊢
  exact Calls.evalArgs_plain hA
end
end Mine
namespace Mine
open PySem PyProof.Rows

/-- a text by the list of its signs -/
def S (l : List Nat) : Str := ⟨l.toArray⟩
theorem S_cps (l : List Nat) : (S l).cps = l.toArray := rfl
theorem S_len (l : List Nat) : (S l).length = l.length := by simp [S, Str.length]
theorem S_inj {a b : List Nat} (h : S a = S b) : a = b := by simpa [S] using h
theorem S_app (a b : List Nat) : S a ++ S b = S (a ++ b) := by show Str.append (S a) (S b) = _; simp [Str.append, S]
theorem S_beq (a b : List Nat) : (S a == S b) = (a == b) := by
  rw [Bool.eq_iff_iff, beq_iff_eq, beq_iff_eq]; exact ⟨S_inj, fun h => by rw [h]⟩
theorem S_bne (a b : List Nat) : (S a != S b) = (a != b) := by simp only [bne, S_beq]

section
variable {prog : Program} {w : World} {base : Heap} {A : Around} {env : Env} {G : List (Str × VP)}

theorem ob_add {a b : Int} : OpB prog w base A .Add (vi a) (vi b) (vi (a + b)) := by
  rintro s _ _ Q E hb ⟨t, rfl⟩ ⟨u, rfl⟩ k; exact PyProof.Rows.add_int (k _ _ _ Kp.rf ⟨_, rfl⟩)
theorem ob_sub {a b : Int} : OpB prog w base A .Sub (vi a) (vi b) (vi (a - b)) := by
  rintro s _ _ Q E hb ⟨t, rfl⟩ ⟨u, rfl⟩ k; exact PyProof.Rows.sub_int (k _ _ _ Kp.rf ⟨_, rfl⟩)
theorem ob_mul {a b : Int} (hm : IntMulOk a b) : OpB prog w base A .Mult (vi a) (vi b) (vi (a * b)) := by
  rintro s _ _ Q E hb ⟨t, rfl⟩ ⟨u, rfl⟩ k; exact PyProof.Rows.mul_int (k _ _ _ Kp.rf ⟨_, rfl⟩) hm
theorem ob_mod {a b : Int} (h : b ≠ 0) : OpB prog w base A .Mod (vi a) (vi b) (vi (a.fmod b)) := by
  rintro s _ _ Q E hb ⟨t, rfl⟩ ⟨u, rfl⟩ k; exact PyProof.Rows.mod_int h (k _ _ _ Kp.rf ⟨_, rfl⟩)
theorem ob_div {a b : Int} (h : b ≠ 0) (hp : Builtin.divisionGoesByPylong a b = false) : OpB prog w base A .FloorDiv (vi a) (vi b) (vi (a.fdiv b)) := by
  rintro s _ _ Q E hb ⟨t, rfl⟩ ⟨u, rfl⟩ k; exact PyProof.Rows.floordiv_int h (k _ _ _ Kp.rf ⟨_, rfl⟩) (.inl hp)
theorem ob_adds {a b : List Nat} (hz : a.length + b.length ≤ sizeLine) : OpB prog w base A .Add (vs (S a)) (vs (S b)) (vs (S (a ++ b))) := by
  rintro s _ _ Q E hb ⟨t, rfl⟩ ⟨u, rfl⟩ k
  refine PyProof.Rows.add_str (fun t' tk => ?_) (by rw [S_len, S_len]; exact hz)
  rw [S_app]; exact k _ s.heap tk Kp.rf ⟨_, rfl⟩
theorem oi_add {a b : Int} : OpI prog w base A .Add (vi a) (vi b) (vi (a + b)) := by
  rintro s _ _ Q E hb ⟨t, rfl⟩ ⟨u, rfl⟩ k; exact PyProof.Rows.iadd_int (k _ _ _ Kp.rf ⟨_, rfl⟩)
theorem oi_sub {a b : Int} : OpI prog w base A .Sub (vi a) (vi b) (vi (a - b)) := by
  rintro s _ _ Q E hb ⟨t, rfl⟩ ⟨u, rfl⟩ k; exact PyProof.Rows.isub_int (k _ _ _ Kp.rf ⟨_, rfl⟩)

theorem oc_eq {a b : Int} : OpC prog w base A .Eq (vi a) (vi b) (a == b) := by
  rintro s _ _ Q E hb ⟨t, rfl⟩ ⟨u, rfl⟩ k; exact PyProof.Rows.eq_int (k _ s.heap s.toks Kp.rf rfl)
theorem oc_ne {a b : Int} : OpC prog w base A .NotEq (vi a) (vi b) (a != b) := by
  rintro s _ _ Q E hb ⟨t, rfl⟩ ⟨u, rfl⟩ k; exact PyProof.Rows.ne_int (k _ s.heap s.toks Kp.rf rfl)
theorem oc_lt {a b : Int} : OpC prog w base A .Lt (vi a) (vi b) (decide (a < b)) := by
  rintro s _ _ Q E hb ⟨t, rfl⟩ ⟨u, rfl⟩ k; exact PyProof.Rows.lt_int (k _ s.heap s.toks Kp.rf rfl)
theorem oc_gt {a b : Int} : OpC prog w base A .Gt (vi a) (vi b) (decide (b < a)) := by
  rintro s _ _ Q E hb ⟨t, rfl⟩ ⟨u, rfl⟩ k; exact PyProof.Rows.gt_int (k _ s.heap s.toks Kp.rf rfl)
theorem oc_le {a b : Int} : OpC prog w base A .LtE (vi a) (vi b) (decide (a ≤ b)) := by
  rintro s _ _ Q E hb ⟨t, rfl⟩ ⟨u, rfl⟩ k; exact PyProof.Rows.le_int (k _ s.heap s.toks Kp.rf rfl)
theorem oc_ge {a b : Int} : OpC prog w base A .GtE (vi a) (vi b) (decide (b ≤ a)) := by
  rintro s _ _ Q E hb ⟨t, rfl⟩ ⟨u, rfl⟩ k; exact PyProof.Rows.ge_int (k _ s.heap s.toks Kp.rf rfl)
theorem oc_eqs {a b : List Nat} : OpC prog w base A .Eq (vs (S a)) (vs (S b)) (a == b) := by
  rintro s _ _ Q E hb ⟨t, rfl⟩ ⟨u, rfl⟩ k; exact PyProof.Rows.eq_str (by rw [S_beq]; exact k _ s.heap s.toks Kp.rf rfl)
theorem oc_nes {a b : List Nat} : OpC prog w base A .NotEq (vs (S a)) (vs (S b)) (a != b) := by
  rintro s _ _ Q E hb ⟨t, rfl⟩ ⟨u, rfl⟩ k; exact PyProof.Rows.ne_str (by rw [S_bne]; exact k _ s.heap s.toks Kp.rf rfl)
theorem oc_eqb {a b : Bool} : OpC prog w base A .Eq (vb a) (vb b) (a == b) := by
  rintro s _ _ Q E hb rfl rfl k; exact PyProof.Rows.eq_bool (k _ s.heap s.toks Kp.rf rfl)

theorem tr_b {b : Bool} : Tr prog w base A (vb b) b := by
  rintro s _ Q E hb rfl k; exact wpAny_truthy_bool (k s.heap s.toks Kp.rf)
theorem tr_i {a : Int} : Tr prog w base A (vi a) (a != 0) := by
  rintro s _ Q E hb ⟨t, rfl⟩ k; exact PyProof.Rows.truthy_int (k s.heap s.toks Kp.rf)
theorem tr_s {l : List Nat} (hz : l.length < 2 ^ 62) : Tr prog w base A (vs (S l)) (!l.isEmpty) := by
  rintro s _ Q E hb ⟨t, rfl⟩ k
  refine PySem.P.truthy_str (x := S l) (t := t) (by rw [S_len]; omega) ?_
  have e : (((S l).length : Int) != 0) = !l.isEmpty := by
    rw [S_len]
    cases l with
    | nil => rfl
    | cons a r =>
      have : ((((a :: r).length : Nat) : Int) != 0) = true := by rw [bne_iff_ne]; simp only [List.length_cons]; omega
      rw [this]; rfl
  rw [e]; exact k s.heap _ Kp.rf

/-- len -/
theorem do_len_s {l : List Nat} (hz : l.length < 2 ^ 62) : Does prog w base A (.builtin "len") [vs (S l)] (vi l.length) := by
  intro s us Q E hb x k
  match us, x with
  | [_], ⟨⟨t, rfl⟩, _⟩ =>
    refine PyProof.Rows.len_str (by rw [S_len]; omega) ?_
    rw [S_len]
    exact k _ s.heap _ Kp.rf ⟨_, rfl⟩

/-! slices of texts -/
def clipN (n : Nat) (v : Option Int) (d : Nat) : Nat := match v with | none => d | some i => (max 0 (min (if i < 0 then i + n else i) n)).toNat
def cut (l : List Nat) (lo hi : Option Int) : List Nat := (l.drop (clipN l.length lo 0)).take (clipN l.length hi l.length - clipN l.length lo 0)
theorem clipN_le {n : Nat} {v : Option Int} {d : Nat} (hd : d ≤ n) : clipN n v d ≤ n := by
  unfold clipN; split
  · exact hd
  · omega
theorem indices_eq (n : Nat) (lo hi : Option Int) : Builtin.Str.strSliceIndices lo hi 1 n = sliceRange (clipN n lo 0) (clipN n hi n) 1 := by
  unfold Builtin.Str.strSliceIndices clipN
  simp only [show (1 : Int) > 0 by decide, if_true]
  congr 1
  · cases lo with
    | none => rfl
    | some i => dsimp only; omega
  · cases hi with
    | none => rfl
    | some i => dsimp only; omega
theorem picked_eq (l : List Nat) (lo hi : Option Int) : (Builtin.Str.strSliceIndices lo hi 1 l.length).filterMap (l.toArray[·]?) = cut l lo hi := by
  rw [indices_eq, sliceRange_one, pick_run]; rfl

theorem cut_len_le (l : List Nat) (lo hi : Option Int) : (cut l lo hi).length ≤ l.length := by
  unfold cut; simp; omega

/-- a part of a slice -/
def PO (prog : Program) (w : World) (base : Heap) (A : Around) (env : Env) (G : List (Str × VP)) (p : Option Expr) (o : Option Int) : Prop :=
  ∀ (s : Shared) (Q : Value → Shared → Prop) (E : Value → Shared → Prop), Kp base s.heap → Vars env G s.heap →
    (∀ v h' tk, Kp s.heap h' → (match o with | none => v = .none | some i => ∃ t, v = .int i t) → Q v { s with heap := h', toks := tk }) → wpAny (model prog w) A (evalPart p env) Q E s
theorem PO.none : PO prog w base A env G Option.none Option.none := fun s Q E _ _ k => by
  rw [evalPart_none]; exact wpAny_pure (k .none s.heap s.toks Kp.rf rfl)
theorem PO.some {e : Expr} {i : Int} (h : PE prog w base A env G e (vi i)) : PO prog w base A env G (Option.some e) (Option.some i) := fun s Q E hb hv k => h s Q E hb hv fun v h' tk kk r => k v h' tk kk r
theorem PO.somen {e : Expr} (h : PE prog w base A env G e vn) : PO prog w base A env G (Option.some e) Option.none := fun s Q E hb hv k => h s Q E hb hv fun v h' tk kk r => k v h' tk kk r

theorem part_of {o : Option Int} {v : Value} (h : match o with | none => v = .none | some i => ∃ t, v = .int i t) : ∃ q : Option (Int × Tok), v = partValue q ∧ q.map (·.1) = o := by
  cases o with
  | none => exact ⟨none, h, rfl⟩
  | some i => obtain ⟨t, rfl⟩ := h; exact ⟨some (i, t), rfl, rfl⟩

theorem PE.sl {value : Expr} {lower upper : Option Expr} {p pos : Pos} {l : List Nat} {lo hi : Option Int} (hz : l.length ≤ sizeLine) (hv : PE prog w base A env G value (vs (S l)))
    (hlo : PO prog w base A env G lower lo) (hhi : PO prog w base A env G upper hi) (ht : ∀ o r, letTemporaryGo value o r = pure ()) :
    PE prog w base A env G (.Subscript value (.Slice lower upper none p) pos) (vs (S (cut l lo hi))) := by
  intro s Q E hb hV k
  refine wpAny_Subscript_str_slice (hv s _ E hb hV fun v h1 t1 k1 p1 => ?_) ht
  obtain ⟨t, rfl⟩ := p1
  refine hlo _ _ E (hb.tr k1) (hV.up k1) fun vl h2 t2 k2 p2 => ?_
  refine hhi _ _ E (hb.tr (k1.tr k2)) (hV.up (k1.tr k2)) fun vu h3 t3 k3 p3 => ?_
  obtain ⟨ql, rfl, e1⟩ := part_of p2
  obtain ⟨qu, rfl, e2⟩ := part_of p3
  refine ⟨S l, t, ql, qu, rfl, rfl, rfl, ?_⟩
  have kk : Kp s.heap (h3.push { cls := .type "slice", data := .fields #[partValue ql, partValue qu, .none] }) := k1.tr (k2.tr (k3.tr (Kp.push _ _)))
  have ep : (slicePicked (S l) ql qu none).filterMap ((S l).cps[·]?) = cut l lo hi := by
    unfold slicePicked
    rw [e1, e2, S_len, S_cps]
    exact picked_eq l lo hi
  unfold sliceMade
  split
  · rename_i hc
    have hlen : (slicePicked (S l) ql qu none).length = l.length := by
      have := (Bool.and_eq_true_iff.mp hc).2
      rw [S_len] at this; simpa using this
    have e : cut l lo hi = l := by
      unfold slicePicked at hlen
      rw [e1, e2, S_len] at hlen
      have h1 : (Builtin.Str.strSliceIndices lo hi 1 l.length).length = l.length := hlen
      rw [indices_eq, sliceRange_one] at h1
      simp only [List.length_map, List.length_range] at h1
      have ha := clipN_le (n := l.length) (v := lo) (Nat.zero_le _)
      have hb' := clipN_le (n := l.length) (v := hi) (Nat.le_refl _)
      unfold cut
      rw [h1]
      have : clipN l.length lo 0 = 0 ∨ l.length = 0 := by omega
      rcases this with h | h
      · rw [h]; simp
      · have : l = [] := List.eq_nil_of_length_eq_zero h
        subst this; simp
    exact k _ _ _ kk ⟨t, by rw [e]⟩
  · refine ⟨?_, ?_⟩
    · rw [ep]
      have := cut_len_le l lo hi
      show (cut l lo hi).toArray.size ≤ sizeLine
      simp; omega
    · rw [ep]; exact k _ _ _ kk ⟨_, rfl⟩

/-! items -/
theorem PE.item {value slice : Expr} {pos : Pos} {P1 P2 R : VP} (hv : PE prog w base A env G value P1) (hi : PE prog w base A env G slice P2)
    (ho : ∀ (s : Shared) (v1 v2 : Value) (Q : Value → Shared → Prop) (E : Value → Shared → Prop), Kp base s.heap → P1.p s.heap v1 → P2.p s.heap v2 → K1 s Q R →
      ∃ (T id : String), s.TypeIs v1 T ∧ typeLookup (.type T) "__getitem__" = pure (some (.builtin id)) ∧ wpAny (model prog w) A (getItem v1 v2) Q E s)
    (hs : ∀ o i, subscripted slice false o i = operate [o, i] (getItem o i)) : PE prog w base A env G (.Subscript value slice pos) R := by
  intro s Q E hb hV k
  refine Subscript_ (hv s _ E hb hV fun v1 h1 t1 k1 p1 => ?_)
  refine hi _ _ E (hb.tr k1) (hV.up k1) fun v2 h2 t2 k2 p2 => ?_
  obtain ⟨T, id, a, b, c⟩ := ho { s with heap := h2, toks := t2 } v1 v2 Q E (hb.tr (k1.tr k2)) (P1.up _ _ _ k2 p1) p2 fun v h' tk kk r => k v h' tk (k1.tr (k2.tr kk)) r
  exact tail_any a b c (hs v1 v2)

theorem PE.item_s {value slice : Expr} {pos : Pos} {l : List Nat} {i : Int} {c : Nat} (hv : PE prog w base A env G value (vs (S l))) (hi : PE prog w base A env G slice (vi i))
    (hr : -(2 ^ 63 : Int) ≤ i ∧ i < 2 ^ 63) (hc : (seqIndex? i l.length).bind (l[·]?) = some c)
    (hs : ∀ o i, subscripted slice false o i = operate [o, i] (getItem o i)) : PE prog w base A env G (.Subscript value slice pos) (vs (S [c])) := by
  refine PE.item hv hi ?_ hs
  rintro s _ _ Q E hb ⟨t, rfl⟩ ⟨u, rfl⟩ k
  refine ⟨"str", _, typeIs_str s _ t, F.slot_str_getitem.lookup, PyProof.Rows.getItem_str (c := c) ?_ ?_ (k _ _ _ Kp.rf ⟨_, rfl⟩)⟩
  · have h1 : decide (i < -(2 ^ 63 : Int)) = false := decide_eq_false (by omega)
    have h2 : decide (i ≥ (2 ^ 63 : Int)) = false := decide_eq_false (by omega)
    rw [h1, h2]; rfl
  · rw [S_len, S_cps]
    have : (fun x : Nat => l.toArray[x]?) = (fun x : Nat => l[x]?) := by funext x; simp
    rw [this]; exact hc

theorem PE.item_l {value slice : Expr} {pos : Pos} {Ps : List VP} {i : Int} {R : VP} (hv : PE prog w base A env G value (vl Ps)) (hi : PE prog w base A env G slice (vi i))
    (h0 : 0 ≤ i) (hfit : i < 2 ^ 63) (hx : Ps[i.toNat]? = some R) (hs : ∀ o i, subscripted slice false o i = operate [o, i] (getItem o i)) : PE prog w base A env G (.Subscript value slice pos) R := by
  refine PE.item hv hi ?_ hs
  rintro s _ _ Q E hb ⟨a, us, rfl, hl, x⟩ ⟨u, rfl⟩ k
  obtain ⟨v, e, p⟩ := x.get' hx
  exact ⟨"list", _, hl.typeIs, slot_list_getitem.lookup, wpAny_getItem_list hl h0 hfit (by simpa using e) (k v s.heap s.toks Kp.rf p)⟩

theorem PE.item_ln {value slice : Expr} {pos : Pos} {Ps : List VP} {i : Int} {R : VP} (hv : PE prog w base A env G value (vl Ps)) (hi : PE prog w base A env G slice (vi i))
    (h0 : i < 0) (h1 : -(Ps.length : Int) ≤ i) (hfit : -(2 ^ 63) ≤ i) (hx : Ps[(i + Ps.length).toNat]? = some R) (hs : ∀ o i, subscripted slice false o i = operate [o, i] (getItem o i)) :
    PE prog w base A env G (.Subscript value slice pos) R := by
  refine PE.item hv hi ?_ hs
  rintro s _ _ Q E hb ⟨a, us, rfl, hl, x⟩ ⟨u, rfl⟩ k
  obtain ⟨v, e, p⟩ := x.get' hx
  have hlen := x.length
  refine ⟨"list", _, hl.typeIs, slot_list_getitem.lookup, wpAny_getItem_list_neg hl h0 ?_ hfit ?_ (k v s.heap s.toks Kp.rf p)⟩
  · simp; omega
  · simp only [List.size_toArray, hlen]; simpa using e
end
end Mine
namespace Mine
open PySem PyProof.Rows

/-- the addresses of a frame -/
def fa (env : Env) : List Addr := env.locals :: env.cells.filterMap fun p => env.cells.lookup p.1
def KX (mu : List Addr) (h h' : Heap) : Prop := ∀ b o, b ∉ mu → h.get? b = some o → h'.get? b = some o
theorem Kp.kx {mu : List Addr} {h h' : Heap} (k : Kp h h') : KX mu h h' := fun b o _ e => k b o e
theorem KX.tr {mu : List Addr} {a b c : Heap} (x : KX mu a b) (y : KX mu b c) : KX mu a c := fun p o n e => y p o n (x p o n e)
theorem KX.mono {mu mu' : List Addr} {a b : Heap} (x : KX mu a b) (h : ∀ p ∈ mu, p ∈ mu') : KX mu' a b := fun p o n e => x p o (fun q => n (h p q)) e
/-- what a store into the frame leaves -/
structure Kf (env : Env) (h h' : Heap) : Prop where
  ks : Ks h h'
  kx : KX (fa env) h h'
theorem Kp.kf {env : Env} {h h' : Heap} (k : Kp h h') : Kf env h h' := ⟨k.ks, k.kx⟩
theorem Kf.tr {env : Env} {a b c : Heap} (x : Kf env a b) (y : Kf env b c) : Kf env a c := ⟨x.ks.tr y.ks, x.kx.tr y.kx⟩
theorem lookup_mem_fa {env : Env} {x : Str} {c : Addr} (h : env.cells.lookup x = some c) : c ∈ fa env := List.mem_cons_of_mem _ (List.mem_filterMap.mpr ⟨(x, c), mem_of_lookup h, h⟩)

structure FEnv (env : Env) : Prop extends EnvOk env where
  cok : ∀ x, env.kindOf x = some .cell → ∃ c, env.cells.lookup x = some c

def slotv (env : Env) (m cm : Str → Option Value) (x : Str) : Option Value := match env.kindOf x with
  | some .local => m x
  | some .cell => cm x
  | _ => none

/-- the state within a call: s₀ is the state at its start -/
structure Fs (s₀ : Shared) (env : Env) (G : List (Str × VP)) (s : Shared) : Prop where
  ic : ∃ m cm, InCallC s₀ env.locals m env.cells cm s ∧ ∀ x P, G.lookup x = some P → ∃ v, slotv env m cm x = some v ∧ P.p s.heap v
  sq : ∀ x P, G.lookup x = some P → Sq P

section
variable {s₀ s : Shared} {env : Env} {G : List (Str × VP)}

theorem Fs.vars (F : Fs s₀ env G s) (fe : FEnv env) : Vars env G s.heap := by
  obtain ⟨m, cm, ic, hv⟩ := F.ic
  intro x P e
  obtain ⟨v, hs, hp⟩ := hv x P e
  refine ⟨v, ?_, hp⟩
  unfold slotv at hs
  split at hs
  · rename_i hk; exact .inl ⟨hk, m, ic.toInCall.ns, hs⟩
  · rename_i hk
    obtain ⟨c, hc⟩ := fe.cok x hk
    refine .inr (.inl ⟨hk, c, hc, ?_⟩)
    have := ic.cell x c hc
    rw [hs] at this; exact this
  · cases hs

theorem Fs.keep (F : Fs s₀ env G s) : Kp s₀.heap s.heap := let ⟨_, _, ic, _⟩ := F.ic; ic.toInCall.keep
theorem Fs.same (F : Fs s₀ env G s) : ∃ h tk, s = { s₀ with heap := h, toks := tk } := let ⟨_, _, ic, _⟩ := F.ic; ic.toInCall.same

theorem incall_up {m cm : Str → Option Value} {h' : Heap} {tk : Nat} (ic : InCallC s₀ env.locals m env.cells cm s) (k : Kp s.heap h') : InCallC s₀ env.locals m env.cells cm { s with heap := h', toks := tk } := by
  obtain ⟨⟨same, ns, keep, fresh⟩, cell, apart, above⟩ := ic
  refine ⟨⟨?_, ns.keeps k, fun b o e => k b o (keep b o e), fresh⟩, fun n c hc => (cell n c hc).keeps k, apart, above⟩
  obtain ⟨h, t, rfl⟩ := same
  exact ⟨h', tk, rfl⟩

theorem Fs.up (F : Fs s₀ env G s) {h' : Heap} {tk : Nat} (k : Kp s.heap h') : Fs s₀ env G { s with heap := h', toks := tk } := by
  obtain ⟨m, cm, ic, hv⟩ := F.ic
  refine ⟨⟨m, cm, incall_up ic k, fun x P e => ?_⟩, F.sq⟩
  obtain ⟨v, hs, hp⟩ := hv x P e
  exact ⟨v, hs, P.up _ _ _ k hp⟩

theorem Fs.sub (F : Fs s₀ env G s) {G' : List (Str × VP)} (h : ∀ x P, G'.lookup x = some P → G.lookup x = some P) : Fs s₀ env G' s := by
  obtain ⟨m, cm, ic, hv⟩ := F.ic
  exact ⟨⟨m, cm, ic, fun x P e => hv x P (h x P e)⟩, fun x P e => F.sq x P (h x P e)⟩

theorem Fs.conv (F : Fs s₀ env G s) {G' : List (Str × VP)} (h : ∀ x P', G'.lookup x = some P' → Sq P' ∧ ∃ P, G.lookup x = some P ∧ ∀ v, P.p s.heap v → P'.p s.heap v) : Fs s₀ env G' s := by
  obtain ⟨m, cm, ic, hv⟩ := F.ic
  refine ⟨⟨m, cm, ic, fun x P' e => ?_⟩, fun x P e => (h x P e).1⟩
  obtain ⟨P, e1, e2⟩ := (h x P' e).2
  obtain ⟨v, hs, hp⟩ := hv x P e1
  exact ⟨v, hs, e2 v hp⟩

theorem lookup_cons_cases {x y : Str} {P Q : VP} {G : List (Str × VP)} (h : ((x, P) :: G).lookup y = some Q) : (y = x ∧ Q = P) ∨ (y ≠ x ∧ G.lookup y = some Q) := by
  rw [List.lookup_cons] at h
  by_cases e : y = x
  · subst e; simp at h; exact .inl ⟨rfl, h.symm⟩
  · have : (y == x) = false := beq_eq_false_iff_ne.mpr e
    rw [this] at h; exact .inr ⟨e, h⟩

/-- an object other than the frame's is changed: flat variables stand -/
theorem Fs.mutd (F : Fs s₀ env G s) (hf : ∀ x P, G.lookup x = some P → Flat P) {h' : Heap} {tk : Nat} {r : Addr} (hs : Heap.SameBut r s.heap h') (hr : s₀.heap.get? r = none)
    (ho : ∃ o, s.heap.get? r = some o ∧ isSeq o = true) : Fs s₀ env G { s with heap := h', toks := tk } := by
  obtain ⟨m, cm, ic, hv⟩ := F.ic
  obtain ⟨⟨same, ns, keep, fresh⟩, cell, apart, above⟩ := ic
  obtain ⟨o, ho, hq⟩ := ho
  have hL : env.locals ≠ r := by
    rintro rfl
    obtain ⟨o', es, ep, h1, h2, _⟩ := ns
    rw [ho] at h1; cases h1
    simp [isSeq, h2] at hq
  refine ⟨⟨m, cm, ⟨⟨?_, ns.sameBut hs hL, fun b ob e => ?_, fresh⟩, fun n c hc => ?_, apart, above⟩, fun x P e => ?_⟩, F.sq⟩
  · obtain ⟨h, t, rfl⟩ := same
    exact ⟨h', tk, rfl⟩
  · have hb : b ≠ r := by rintro rfl; rw [hr] at e; cases e
    exact (hs.2 b hb).trans (keep b ob e)
  · refine (cell n c hc).sameBut hs ?_
    rintro rfl
    obtain ⟨o', h1, h2⟩ := cell n c hc
    rw [ho] at h1; cases h1
    simp [isSeq, h2] at hq
  · obtain ⟨v, h1, h2⟩ := hv x P e
    exact ⟨v, h1, hf x P e _ _ _ h2⟩
end

section
variable {prog : Program} {w : World} {base : Heap} {A : Around} {E : Value → Shared → Prop} {s₀ s : Shared} {env : Env} {G : List (Str × VP)}

theorem store_ {x : Str} {v : Value} {P : VP} {Q : Unit → Shared → Prop} (fe : FEnv env) (F : Fs s₀ env G s) (hk : env.kindOf x = some .local ∨ env.kindOf x = some .cell) (hp : P.p s.heap v) (hq : Sq P)
    (k : ∀ h' tk, Kf env s.heap h' → Fs s₀ env ((x, P) :: G) { s with heap := h', toks := tk } → Q () { s with heap := h', toks := tk }) :
    wpAny (model prog w) A (storeName env x v) Q E s := by
  obtain ⟨m, cm, ic, hv⟩ := F.ic
  have hsq : ∀ y P', ((x, P) :: G).lookup y = some P' → Sq P' := fun y P' e => by
    rcases lookup_cons_cases e with ⟨_, rfl⟩ | ⟨_, e⟩
    · exact hq
    · exact F.sq y P' e
  rcases hk with hk | hk
  · obtain ⟨o, es, ep, ho, hd, hrest⟩ := id ic.toInCall.ns
    refine wpAny_storeName_local hk ic.toInCall.ns (fun h' hn hs => ?_) (by rw [fe.k]; rfl)
    have ks : Ks s.heap h' := ks_of_sameBut hs fun o' e => by rw [ho] at e; cases e; simp [isSeq, hd]
    have kf : Kf env s.heap h' := ⟨ks, fun b o hb e => (hs.2 b (fun q => hb (q ▸ List.mem_cons_self))).trans e⟩
    refine k h' _ kf ⟨⟨fun y => if y = x then some v else m y, cm, ⟨⟨?_, hn, fun b o e => ?_, ic.toInCall.fresh⟩, fun n c hc => ?_, ic.apart, ic.above⟩, fun y P' e => ?_⟩, hsq⟩
    · obtain ⟨h₁, t, rfl⟩ := ic.toInCall.same
      exact ⟨h', _, rfl⟩
    · exact hs.extBut b o (Nat.ne_of_lt (Nat.lt_of_lt_of_le (Heap.lt_size e) ic.toInCall.fresh)) (ic.toInCall.keep b o e)
    · exact (ic.cell n c hc).sameBut hs (Nat.ne_of_gt (ic.above n c (mem_of_lookup hc)))
    · rcases lookup_cons_cases e with ⟨rfl, rfl⟩ | ⟨hne, e⟩
      · exact ⟨v, by simp [slotv, hk], hq _ _ _ ks hp⟩
      · obtain ⟨u, h1, h2⟩ := hv y P' e
        refine ⟨u, ?_, F.sq y P' e _ _ _ ks h2⟩
        unfold slotv at h1 ⊢
        split at h1 <;> simp_all
  · obtain ⟨c, hc⟩ := fe.cok x hk
    obtain ⟨o, ho, hd⟩ := ic.cell x c hc
    have hLc := ic.above x c (mem_of_lookup hc)
    refine wpAny_storeName_cell fe.k hk hc (ic.cell x c hc) fun h' hc' hs => ?_
    have ks : Ks s.heap h' := ks_of_sameBut hs fun o' e => by rw [ho] at e; cases e; simp [isSeq, hd]
    have kf : Kf env s.heap h' := ⟨ks, fun b o hb e => (hs.2 b (fun q => hb (q ▸ lookup_mem_fa hc))).trans e⟩
    refine k h' s.toks kf ⟨⟨m, fun y => if y = x then some v else cm y, ⟨⟨?_, ic.toInCall.ns.sameBut hs (Nat.ne_of_lt hLc), fun b o e => ?_, ic.toInCall.fresh⟩, fun n c' hk' => ?_, ic.apart, ic.above⟩, fun y P' e => ?_⟩, hsq⟩
    · obtain ⟨h₁, t, rfl⟩ := ic.toInCall.same
      exact ⟨h', _, rfl⟩
    · exact hs.extBut b o (Nat.ne_of_lt (Nat.lt_trans (Nat.lt_of_lt_of_le (Heap.lt_size e) ic.toInCall.fresh) hLc)) (ic.toInCall.keep b o e)
    · by_cases hkn : n = x
      · subst hkn
        rw [hc] at hk'; cases hk'
        simpa using hc'
      · rw [if_neg hkn]
        exact (ic.cell n c' hk').sameBut hs fun e => hkn (name_of_addr ic.apart (mem_of_lookup hk') (e ▸ mem_of_lookup hc))
    · rcases lookup_cons_cases e with ⟨rfl, rfl⟩ | ⟨hne, e⟩
      · exact ⟨v, by simp [slotv, hk], hq _ _ _ ks hp⟩
      · obtain ⟨u, h1, h2⟩ := hv y P' e
        refine ⟨u, ?_, F.sq y P' e _ _ _ ks h2⟩
        unfold slotv at h1 ⊢
        split at h1 <;> simp_all

theorem ex_nil {Q : Flow → Shared → Prop} (k : Q .next s) : wpAny (model prog w) A (execs [] env) Q E s := wpAny_execs_nil k

theorem ex_assign {x : Str} {p' pos : Pos} {value : Expr} {rest : List Stmt} {P : VP} {Q : Flow → Shared → Prop} (fe : FEnv env) (hb : Kp base s.heap) (F : Fs s₀ env G s)
    (hk : env.kindOf x = some .local ∨ env.kindOf x = some .cell) (hs : swapsWith value (some (.Name x p')) pos.line env = pure false) (hq : Sq P) (he : PE prog w base A env G value P)
    (k : ∀ h' tk, Kf env s.heap h' → Fs s₀ env ((x, P) :: G) { s with heap := h', toks := tk } → wpAny (model prog w) A (execs rest env) Q E { s with heap := h', toks := tk }) :
    wpAny (model prog w) A (execs (.Assign [.Name x p'] value pos :: rest) env) Q E s := by
  refine wpAny_execs_cons (wpAny_Assign_Name (he s _ E hb (F.vars fe) fun v h1 t1 k1 p1 => ?_) hs)
  exact store_ fe (F.up k1) hk p1 hq fun h' tk ks F' => k h' tk (k1.kf.tr ks) F'

theorem ex_assign2 {x y : Str} {p' p'' pos : Pos} {value : Expr} {rest : List Stmt} {P : VP} {Q : Flow → Shared → Prop} (fe : FEnv env) (hb : Kp base s.heap) (F : Fs s₀ env G s)
    (hk : env.kindOf x = some .local ∨ env.kindOf x = some .cell) (hk' : env.kindOf y = some .local ∨ env.kindOf y = some .cell) (hq : Sq P) (he : PE prog w base A env G value P)
    (k : ∀ h' tk, Kf env s.heap h' → Fs s₀ env ((y, P) :: (x, P) :: G) { s with heap := h', toks := tk } → wpAny (model prog w) A (execs rest env) Q E { s with heap := h', toks := tk }) :
    wpAny (model prog w) A (execs (.Assign [.Name x p', .Name y p''] value pos :: rest) env) Q E s := by
  refine wpAny_execs_cons (wpAny_Assign_two (he s _ E hb (F.vars fe) fun v h1 t1 k1 p1 => ?_) rfl rfl)
  refine wpAny_assign_Name (store_ fe (F.up k1) hk p1 hq fun h2 t2 ks F' => ?_)
  refine wpAny_assign_Name (store_ fe F' hk' (hq _ _ _ ks.ks p1) hq fun h3 t3 ks' F'' => ?_)
  exact k h3 t3 (k1.kf.tr (ks.tr ks')) F''

theorem load_ {x : Str} {P : VP} {Q : Value → Shared → Prop} (ok : EnvOk env) (hv : Vars env G s.heap) (hl : G.lookup x = some P) (k : ∀ v, P.p s.heap v → Q v s) : wpAny (model prog w) A (loadName env x) Q E s := by
  obtain ⟨v, l, p⟩ := hv x P hl
  rcases l with ⟨hk, m, n, e⟩ | ⟨hk, c, l, e⟩ | ⟨hk, hc, c, l, e⟩
  · exact wpAny_loadName_local ok.k hk n e (k v p)
  · exact wpAny_loadName_cell ok.k hk l e (k v p)
  · exact wpAny_loadName_free ok.k hk l e (k v p) hc

theorem ex_aug {x : Str} {p' pos : Pos} {op : Operator} {value : Expr} {rest : List Stmt} {P0 P1 P : VP} {Q : Flow → Shared → Prop} (fe : FEnv env) (hb : Kp base s.heap) (F : Fs s₀ env G s)
    (hk : env.kindOf x = some .local ∨ env.kindOf x = some .cell) (hq : Sq P) (hx : G.lookup x = some P0)
    (he : PE prog w base A env G value P1) (ho : OpI prog w base A op P0 P1 P)
    (k : ∀ h' tk, Kf env s.heap h' → Fs s₀ env ((x, P) :: G) { s with heap := h', toks := tk } → wpAny (model prog w) A (execs rest env) Q E { s with heap := h', toks := tk }) :
    wpAny (model prog w) A (execs (.AugAssign (.Name x p') op value pos :: rest) env) Q E s := by
  refine wpAny_execs_cons (wpAny_AugAssign_Name (load_ fe.toEnvOk (F.vars fe) hx fun v0 p1 => ?_))
  refine he _ _ E hb (F.vars fe) fun v1 h2 t2 k2 p2 => ?_
  refine ho _ _ _ _ E (hb.tr k2) (P0.up _ _ _ k2 p1) p2 fun v2 h3 t3 k3 p3 => ?_
  exact store_ fe (F.up (k2.tr k3)) hk p3 hq fun h' tk ks F' => k h' tk ((k2.tr k3).kf.tr ks) F'

theorem ex_ret {e : Expr} {pos : Pos} {rest : List Stmt} {P : VP} {Q : Flow → Shared → Prop} (fe : FEnv env) (hb : Kp base s.heap) (F : Fs s₀ env G s) (he : PE prog w base A env G e P)
    (k : ∀ v h' tk, Kp s.heap h' → P.p h' v → Q (.ret v) { s with heap := h', toks := tk }) : wpAny (model prog w) A (execs (.Return (some e) pos :: rest) env) Q E s :=
  wpAny_execs_cons (wpAny_Return_some (he s _ E hb (F.vars fe) fun v h1 t1 k1 p1 => k v h1 t1 k1 p1))

theorem ex_if {test : Expr} {body orelse rest : List Stmt} {pos : Pos} {b : Bool} {Q : Flow → Shared → Prop} (fe : FEnv env) (hb : Kp base s.heap) (F : Fs s₀ env G s) (ht : PT prog w base A env G test b)
    (k1 : b = true → ∀ h' tk, Kp s.heap h' → Fs s₀ env G { s with heap := h', toks := tk } →
      wpAny (model prog w) A (execs body env) (fun f s' => match f with | .next => wpAny (model prog w) A (execs rest env) Q E s' | f => Q f s') E { s with heap := h', toks := tk })
    (k0 : b = false → ∀ h' tk, Kp s.heap h' → Fs s₀ env G { s with heap := h', toks := tk } →
      wpAny (model prog w) A (execs orelse env) (fun f s' => match f with | .next => wpAny (model prog w) A (execs rest env) Q E s' | f => Q f s') E { s with heap := h', toks := tk }) :
    wpAny (model prog w) A (execs (.If test body orelse pos :: rest) env) Q E s := by
  refine wpAny_execs_cons (wpAny_If (ht s _ E hb (F.vars fe) fun h1 t1 kk => ?_))
  cases b with
  | true => exact k1 rfl h1 t1 kk (F.up kk)
  | false => exact k0 rfl h1 t1 kk (F.up kk)

/-- an if without else -/
theorem ex_if1 {test : Expr} {body rest : List Stmt} {pos : Pos} {b : Bool} {Q : Flow → Shared → Prop} (fe : FEnv env) (hb : Kp base s.heap) (F : Fs s₀ env G s) (ht : PT prog w base A env G test b)
    (k1 : b = true → ∀ h' tk, Kp s.heap h' → Fs s₀ env G { s with heap := h', toks := tk } →
      wpAny (model prog w) A (execs body env) (fun f s' => match f with | .next => wpAny (model prog w) A (execs rest env) Q E s' | f => Q f s') E { s with heap := h', toks := tk })
    (k0 : b = false → ∀ h' tk, Kp s.heap h' → Fs s₀ env G { s with heap := h', toks := tk } → wpAny (model prog w) A (execs rest env) Q E { s with heap := h', toks := tk }) :
    wpAny (model prog w) A (execs (.If test body [] pos :: rest) env) Q E s :=
  ex_if fe hb F ht k1 fun e h' tk kk F' => wpAny_execs_nil (k0 e h' tk kk F')

/-- two or three names at once, stored from behind -/
theorem ex_swap2 {x y : Str} {px py tpos vpos pos : Pos} {c c' : Nat} {e1 e2 : Expr} {rest : List Stmt} {P1 P2 : VP} {Q : Flow → Shared → Prop} (hh : A.handled = none) (fe : FEnv env) (hb : Kp base s.heap) (F : Fs s₀ env G s)
    (hk : env.kindOf x = some .local ∨ env.kindOf x = some .cell) (hk' : env.kindOf y = some .local ∨ env.kindOf y = some .cell) (hq1 : Sq P1) (hq2 : Sq P2)
    (hsw : swappedStores [.Tuple [.Name x px, .Name y py] c tpos] (.Tuple [e1, e2] c' vpos) env = pure (some [x, y]))
    (he : PE prog w base A env G (.Tuple [e1, e2] c' vpos) (vt [P1, P2]))
    (k : ∀ h' tk, Kf env s.heap h' → Fs s₀ env ((x, P1) :: (y, P2) :: G) { s with heap := h', toks := tk } → wpAny (model prog w) A (execs rest env) Q E { s with heap := h', toks := tk }) :
    wpAny (model prog w) A (execs (.Assign [.Tuple [.Name x px, .Name y py] c tpos] (.Tuple [e1, e2] c' vpos) pos :: rest) env) Q E s := by
  refine wpAny_execs_cons ?_
  rw [exec_Assign_arm]
  refine wpAny_bind (wpAny_standAt ?_)
  refine wpAny_bind (m := swapsWithSole _ _ _ _) (wpAny_pure ?_)
  rw [if_neg (by decide)]
  refine wpAny_bind (he s _ E hb (F.vars fe) fun v h1 t1 k1 p1 => ?_)
  obtain ⟨a, us, rfl, hl, hx⟩ := p1
  match us, hx with
  | [v1, v2], ⟨q1, q2, _⟩ =>
    rw [hsw]
    refine wpAny_bind (wpAny_pure ?_)
    show wpAny _ _ (rule "assign.swapped-stores" >>= fun _ => unpackItems (.ref a) 2 none >>= fun items => assignInOrder [fun v => bindName env y v, fun v => bindName env x v] items.reverse >>= fun _ => pure Flow.next) _ _ _
    refine wpAny_bind (wpAny_rule (wpAny_bind (wpAny_unpackItems_tuple (items := #[v1, v2]) hh hl fun h2 he2 => ?_)))
    have k2 : Kp h1 h2 := fun b o e => he2 b o (Nat.ne_of_lt (Heap.lt_size e)) e
    show wpAny _ _ (assignInOrder [fun v => bindName env y v, fun v => bindName env x v] [v2, v1] >>= fun _ => pure Flow.next) _ _ _
    refine wpAny_bind ?_
    show wpAny _ _ (holding [v1] (bindName env y v2) >>= fun _ => (holding [] (bindName env x v1) >>= fun _ => pure ())) _ _ _
    refine wpAny_bind (wpAny_holding (wpAny_bindName (store_ fe (F.up (tk := t1) (k1.tr k2)) hk' (P2.up _ _ _ k2 q2) hq2 fun h3 t3 ks F' => ?_)))
    refine wpAny_bind (wpAny_holding (wpAny_bindName (store_ fe F' hk (hq1 _ _ _ ks.ks (P1.up _ _ _ k2 q1)) hq1 fun h4 t4 ks' F'' => ?_)))
    exact wpAny_pure (wpAny_pure (k h4 t4 ((k1.tr k2).kf.tr (ks.tr ks')) F''))

theorem ex_swap3 {x y z : Str} {px py pz tpos vpos pos : Pos} {c c' : Nat} {e1 e2 e3 : Expr} {rest : List Stmt} {P1 P2 P3 : VP} {Q : Flow → Shared → Prop} (hh : A.handled = none) (fe : FEnv env) (hb : Kp base s.heap) (F : Fs s₀ env G s)
    (hk : env.kindOf x = some .local ∨ env.kindOf x = some .cell) (hk' : env.kindOf y = some .local ∨ env.kindOf y = some .cell) (hk'' : env.kindOf z = some .local ∨ env.kindOf z = some .cell) (hq1 : Sq P1) (hq2 : Sq P2) (hq3 : Sq P3)
    (hsw : swappedStores [.Tuple [.Name x px, .Name y py, .Name z pz] c tpos] (.Tuple [e1, e2, e3] c' vpos) env = pure (some [x, y, z]))
    (he : PE prog w base A env G (.Tuple [e1, e2, e3] c' vpos) (vt [P1, P2, P3]))
    (k : ∀ h' tk, Kf env s.heap h' → Fs s₀ env ((x, P1) :: (y, P2) :: (z, P3) :: G) { s with heap := h', toks := tk } → wpAny (model prog w) A (execs rest env) Q E { s with heap := h', toks := tk }) :
    wpAny (model prog w) A (execs (.Assign [.Tuple [.Name x px, .Name y py, .Name z pz] c tpos] (.Tuple [e1, e2, e3] c' vpos) pos :: rest) env) Q E s := by
  refine wpAny_execs_cons ?_
  rw [exec_Assign_arm]
  refine wpAny_bind (wpAny_standAt ?_)
  refine wpAny_bind (m := swapsWithSole _ _ _ _) (wpAny_pure ?_)
  rw [if_neg (by decide)]
  refine wpAny_bind (he s _ E hb (F.vars fe) fun v h1 t1 k1 p1 => ?_)
  obtain ⟨a, us, rfl, hl, hx⟩ := p1
  match us, hx with
  | [v1, v2, v3], ⟨q1, q2, q3, _⟩ =>
    rw [hsw]
    refine wpAny_bind (wpAny_pure ?_)
    show wpAny _ _ (rule "assign.swapped-stores" >>= fun _ => unpackItems (.ref a) 3 none >>= fun items => assignInOrder [fun v => bindName env z v, fun v => bindName env y v, fun v => bindName env x v] items.reverse >>= fun _ => pure Flow.next) _ _ _
    refine wpAny_bind (wpAny_rule (wpAny_bind (wpAny_unpackItems_tuple (items := #[v1, v2, v3]) hh hl fun h2 he2 => ?_)))
    have k2 : Kp h1 h2 := fun b o e => he2 b o (Nat.ne_of_lt (Heap.lt_size e)) e
    show wpAny _ _ (assignInOrder [fun v => bindName env z v, fun v => bindName env y v, fun v => bindName env x v] [v3, v2, v1] >>= fun _ => pure Flow.next) _ _ _
    refine wpAny_bind ?_
    show wpAny _ _ (holding [v2, v1] (bindName env z v3) >>= fun _ => (holding [v1] (bindName env y v2) >>= fun _ => (holding [] (bindName env x v1) >>= fun _ => pure ()))) _ _ _
    refine wpAny_bind (wpAny_holding (wpAny_bindName (store_ fe (F.up (tk := t1) (k1.tr k2)) hk'' (P3.up _ _ _ k2 q3) hq3 fun h3 t3 ks F' => ?_)))
    refine wpAny_bind (wpAny_holding (wpAny_bindName (store_ fe F' hk' (hq2 _ _ _ ks.ks (P2.up _ _ _ k2 q2)) hq2 fun h4 t4 ks' F'' => ?_)))
    refine wpAny_bind (wpAny_holding (wpAny_bindName (store_ fe F'' hk (hq1 _ _ _ ks'.ks (hq1 _ _ _ ks.ks (P1.up _ _ _ k2 q1))) hq1 fun h5 t5 ks'' F''' => ?_)))
    exact wpAny_pure (wpAny_pure (k h5 t5 ((k1.tr k2).kf.tr (ks.tr (ks'.tr ks''))) F'''))
end
end Mine
namespace Mine
open PySem PyProof.Rows

/-- a new list -/
def vln (h₀ : Heap) (Ps : List VP) : VP := ⟨fun h v => ∃ (a : Addr) (us : List Value), v = .ref a ∧ h₀.get? a = none ∧ h.IsList a us.toArray ∧ All2 h us Ps,
  fun _ _ _ k ⟨a, us, e, n, l, x⟩ => ⟨a, us, e, n, isList_ks k.ks l, x.up k⟩⟩
theorem vln_vl {h₀ : Heap} {Ps : List VP} {h : Heap} {v : Value} (x : (vln h₀ Ps).p h v) : (vl Ps).p h v := let ⟨a, us, e, _, l, y⟩ := x; ⟨a, us, e, l, y⟩
theorem sq_vln {h₀ : Heap} {Ps : List VP} (hs : ∀ P ∈ Ps, Sq P) : Sq (vln h₀ Ps) := fun _ _ _ k ⟨a, us, e, n, l, x⟩ => ⟨a, us, e, n, isList_ks k l, x.sq k hs⟩

def vrg (a b c : Int) : VP := ⟨fun h v => ∃ (r : Addr) (t u x : Tok), v = .ref r ∧ IsRange h r a b c t u x, fun _ _ _ k ⟨r, t, u, x, e, h⟩ => ⟨r, t, u, x, e, k _ _ h⟩⟩

def rgi (a c : Int) (n : Nat) : List Int := (List.range n).map fun (i : Nat) => a + (i : Int) * c

section
variable {prog : Program} {w : World} {base : Heap} {A : Around} {env : Env} {G : List (Str × VP)}

theorem do_range1 {n : Int} : Does prog w base A (.type "range") [vi n] (vrg 0 n 1) := by
  intro s us Q E hb x k
  match us, x with
  | [_], ⟨⟨t, rfl⟩, _⟩ => exact call_range_1 (k _ _ _ (Kp.push _ _) ⟨_, _, _, _, rfl, IsRange.new ..⟩)
theorem do_range2 {a b : Int} : Does prog w base A (.type "range") [vi a, vi b] (vrg a b 1) := by
  intro s us Q E hb x k
  match us, x with
  | [_, _], ⟨⟨t, rfl⟩, ⟨u, rfl⟩, _⟩ => exact call_range_2 (k _ _ _ (Kp.push _ _) ⟨_, _, _, _, rfl, IsRange.new ..⟩)
theorem do_range3 {a b c : Int} (hc : c ≠ 0) (hp : Builtin.divisionGoesByPylong (b - a) c = false) : Does prog w base A (.type "range") [vi a, vi b, vi c] (vrg a b c) := by
  intro s us Q E hb x k
  match us, x with
  | [_, _, _], ⟨⟨t, rfl⟩, ⟨u, rfl⟩, ⟨y, rfl⟩, _⟩ => exact call_range_3 hc (k _ _ _ (Kp.push _ _) ⟨_, _, _, _, rfl, IsRange.new ..⟩) (.inl hp)

theorem do_list_range {a b c : Int} {n : Nat} (hh : A.handled = none) (hsmall : Builtin.Range.small a b c = true) (hn : Builtin.Range.rangeSize a b c = n) (hlen : n ≤ 2 ^ 24) :
    Does prog w base A (.type "list") [vrg a b c] (vln base ((rgi a c n).map vi)) := by
  intro s us Q E hb x k
  match us, x with
  | [_], ⟨⟨r, t, u, y, rfl, hr⟩, _⟩ =>
    refine call_list_range hh hr hsmall hn hlen fun h' tk acc c' hk hS hacc => ?_
    refine k _ h' tk hk ⟨_, acc.toList, rfl, hb.none_of, ⟨_, hS, rfl, c', by simp⟩, All2.of_get ?_ fun i v P e1 e2 => ?_⟩
    · simp [rgi, hacc.1]
    · have hlt : i < n := by
        have := (List.getElem?_eq_some_iff.mp e1).1
        have e := hacc.1
        simp at this; omega
      obtain ⟨t, ht⟩ := hacc.2 i v (by simpa using e1)
      have : P = vi (a + i * c) := by
        simp [rgi, hlt] at e2; exact e2.symm
      subst this
      exact ⟨t, ht⟩

/-- something that can be gone through; the objects of mu may change meanwhile -/
def It (prog : Program) (w : World) (A : Around) (mu : List Addr) (items : List VP) (h : Heap) (v : Value) : Prop :=
  ∀ (s : Shared) (Q : Value → Shared → Prop) (E : Value → Shared → Prop), Kp h s.heap → (∀ b ∈ mu, ∃ o, s.heap.get? b = some o) →
    (∀ (I : Addr) (fp : List Addr) (P : Nat → Value → Prop) (St : Nat → Heap → Prop) (h' : Heap) (tk : Nat), Walks prog w A I fp [I] items.length P St → St 0 h' → (∀ b ∈ fp, b ∉ mu) → (∀ b ∈ fp, b < h'.objs.size) →
      s.heap.get? I = none → (∀ i hh, St i hh → ∃ o vs, hh.get? I = some o ∧ o.data = .fields vs) → Kp s.heap h' → (∀ i v, P i v → ∃ R, items[i]? = some R ∧ R.p s.heap v) → Q (.ref I) { s with heap := h', toks := tk }) →
    wpAny (model prog w) A (pyIter v) Q E s

theorem it_list {mu : List Addr} {items : List VP} {h : Heap} {a : Addr} {us : List Value} (hh : A.handled = none) (hl : h.IsList a us.toArray) (hx : All2 h us items) (ha : a ∉ mu) :
    It prog w A mu items h (.ref a) := by
  intro s Q E kp hmu k
  have hls : s.heap.IsList a us.toArray := isList_ks kp.ks hl
  obtain ⟨ol, hol, _⟩ := id hls
  have hne : a ≠ s.heap.objs.size := Nat.ne_of_lt (Heap.lt_size hol)
  have hfresh : s.heap.get? s.heap.objs.size = none := Kp.rf.none_of
  have hI : s.heap.objs.size ∉ mu := fun hm => by obtain ⟨o, e⟩ := hmu _ hm; rw [hfresh] at e; cases e
  refine wpAny_pyIter_list hls ?_
  have W := Walks.list (prog := prog) (w := w) hh s.heap.objs.size a hne us.toArray
  have hlen : us.toArray.size = items.length := by simp [hx.length]
  rw [hlen] at W
  refine k s.heap.objs.size _ _ _ _ _ W ⟨⟨_, Heap.get?_push_size _ rfl, rfl, rfl⟩, hls.at fun o e => Heap.get?_push_of_some _ e⟩ ?_ ?_ hfresh ?_ (Kp.push _ _) ?_
  · intro b hb
    simp at hb
    rcases hb with rfl | rfl
    · exact hI
    · exact ha
  · intro b hb
    simp at hb
    rw [Heap.size_push]
    rcases hb with rfl | rfl
    · exact Nat.lt_succ_self _
    · exact Nat.lt_succ_of_lt (Heap.lt_size hol)
  · rintro i h' ⟨⟨o, h1, _, h3⟩, _⟩
    exact ⟨o, _, h1, h3⟩
  · intro i v e
    obtain ⟨P, e1, e2⟩ := (hx.up kp).get (i := i) (v := v) (by simpa using e)
    exact ⟨P, e1, e2⟩

theorem it_vl {items : List VP} {h : Heap} {v : Value} (hh : A.handled = none) (hv : (vl items).p h v) : It prog w A [] items h v := by
  obtain ⟨a, us, rfl, hl, hx⟩ := hv
  exact it_list hh hl hx (by simp)

theorem it_range {mu : List Addr} {a b c : Int} {n : Nat} {h : Heap} {v : Value} (hh : A.handled = none) (hv : (vrg a b c).p h v) (hsmall : Builtin.Range.small a b c = true) (hn : Builtin.Range.rangeSize a b c = n) :
    It prog w A mu ((rgi a c n).map vi) h v := by
  obtain ⟨r, t, u, x, rfl, hr⟩ := hv
  intro s Q E kp hmu k
  have hfresh : s.heap.get? s.heap.objs.size = none := Kp.rf.none_of
  have hI : s.heap.objs.size ∉ mu := fun hm => by obtain ⟨o, e⟩ := hmu _ hm; rw [hfresh] at e; cases e
  refine wpAny_pyIter_range (kp _ _ hr) hsmall ?_
  have W := Walks.range (prog := prog) (w := w) hh s.heap.objs.size a c n
  have hlen : n = ((rgi a c n).map vi).length := by simp [rgi]
  rw [hn]
  have st0 : IsRangeIter (s.heap.push { cls := .type "range_iterator", data := .fields #[rawInt a, rawInt n, rawInt c] }) s.heap.objs.size (a + ((0 : Nat) : Int) * c) ((n : Int) - ((0 : Nat) : Int)) c := by
    have e1 : a + ((0 : Nat) : Int) * c = a := by simp
    have e2 : (n : Int) - ((0 : Nat) : Int) = n := by simp
    rw [e1, e2]
    exact Heap.get?_push_size _ rfl
  refine k s.heap.objs.size [s.heap.objs.size] (fun i v => i < n ∧ ∃ t, v = .int (a + i * c) t) (fun i h => IsRangeIter h s.heap.objs.size (a + (i : Nat) * c) ((n : Int) - (i : Nat)) c) _ s.toks ?_ st0 ?_ ?_ hfresh ?_ (Kp.push _ _) ?_
  · rw [← hlen]
    exact { sub := W.sub, frame := W.frame, item := fun i s Q E hi st hQ => W.item i s Q E hi st fun v h' tk p => hQ v h' tk ⟨hi, p⟩, done := W.done, self := W.self }
  · intro b hb
    simp at hb; subst hb; exact hI
  · intro b hb
    simp at hb; subst hb; rw [Heap.size_push]; exact Nat.lt_succ_self _
  · intro i h' st
    exact ⟨_, _, st, rfl⟩
  · rintro i v ⟨hi, t, rfl⟩
    exact ⟨vi (a + i * c), by simp [rgi, hi], ⟨t, rfl⟩⟩
end

/-- all but iterators, slices, ranges and the like is kept -/
def KN (h h' : Heap) : Prop := ∀ b o, h.get? b = some o → (∀ vs, o.data ≠ .fields vs) → h'.get? b = some o
theorem KN.ks {h h' : Heap} (k : KN h h') : Ks h h' := fun b o e q => k b o e fun vs hd => by simp [isSeq, hd] at q

section
variable {prog : Program} {w : World} {base : Heap} {A : Around} {E : Value → Shared → Prop} {s₀ s : Shared} {env : Env} {G : List (Str × VP)}

theorem Fs.kn (F : Fs s₀ env G s) {h' : Heap} {tk : Nat} (k : KN s.heap h') (k0 : Kp s₀.heap h') : Fs s₀ env G { s with heap := h', toks := tk } := by
  obtain ⟨m, cm, ⟨⟨same, ns, keep, fresh⟩, cell, apart, above⟩, hv⟩ := F.ic
  refine ⟨⟨m, cm, ⟨⟨?_, ?_, k0, fresh⟩, fun n c hc => ?_, apart, above⟩, fun x P e => ?_⟩, F.sq⟩
  · obtain ⟨h, t, rfl⟩ := same
    exact ⟨h', tk, rfl⟩
  · obtain ⟨o, es, ep, ho, hd, r⟩ := ns
    exact ⟨o, es, ep, k _ _ ho (fun vs e => by rw [hd] at e; cases e), hd, r⟩
  · obtain ⟨o, ho, hd⟩ := cell n c hc
    exact ⟨o, k _ _ ho (fun vs e => by rw [hd] at e; cases e), hd⟩
  · obtain ⟨v, h1, h2⟩ := hv x P e
    exact ⟨v, h1, F.sq x P e _ _ _ k.ks h2⟩

theorem ex_while {test : Expr} {body rest : List Stmt} {pos : Pos} {Q : Flow → Shared → Prop} (fe : FEnv env) (hb : Kp base s₀.heap) (I : Nat → Shared → Prop) (n : Nat) (h : I n s)
    (turn : ∀ n s (E' : Value → Shared → Prop), I n s → ∃ (G : List (Str × VP)) (b : Bool), Fs s₀ env G s ∧ PT prog w base A env G test b ∧
      (b = true → ∀ h' tk, Kp s.heap h' → Fs s₀ env G { s with heap := h', toks := tk } →
        wpAny (model prog w) A (execs body env) (fun f s₃ => f = .next ∧ ∃ m, m < n ∧ I m s₃) E' { s with heap := h', toks := tk }) ∧
      (b = false → ∀ h' tk, Kp s.heap h' → Fs s₀ env G { s with heap := h', toks := tk } → wpAny (model prog w) A (execs rest env) Q E { s with heap := h', toks := tk })) :
    wpAny (model prog w) A (execs (.While test body [] pos :: rest) env) Q E s := by
  refine wpAny_execs_cons (wpAny_While (codeAny_whileLoop I (fun n s hI => ?_) n h))
  obtain ⟨G, b, F, ht, h1, h0⟩ := turn n s _ hI
  refine ht s _ _ (hb.tr F.keep) (F.vars fe) fun h' tk kk => ?_
  cases b with
  | true =>
    simp only [if_true]
    refine wpAny_mono (h1 rfl h' tk kk (F.up kk)) (fun f s₃ hf => ?_) fun _ _ e => e
    obtain ⟨rfl, hm⟩ := hf
    exact hm
  | false =>
    simp only [Bool.false_eq_true, if_false]
    exact wpAny_execs_nil (h0 rfl h' tk kk (F.up kk))

theorem ex_for {x : Str} {p' pos : Pos} {iter : Expr} {body rest : List Stmt} {Q : Flow → Shared → Prop} {P : VP} (fe : FEnv env) (hb : Kp base s.heap) (F : Fs s₀ env G s)
    (mu : List Addr) (items : List VP) (hi : PE prog w base A env G iter P) (hP : ∀ h' v, Kp s.heap h' → P.p h' v → It prog w A mu items h' v)
    (hfl : ∀ R ∈ items, Flat R) (hmu : ∀ b ∈ mu, ∃ o, s.heap.get? b = some o) (hmu0 : ∀ b ∈ mu, s₀.heap.get? b = none)
    (J : Nat → Shared → Prop) (h0 : ∀ h' tk, Kp s.heap h' → Fs s₀ env G { s with heap := h', toks := tk } → J 0 { s with heap := h', toks := tk })
    (hJ : ∀ i s' h' tk, J i s' → KN s'.heap h' → Kp s₀.heap h' → J i { s' with heap := h', toks := tk })
    (turn : ∀ i R (s' : Shared) v (E' : Value → Shared → Prop), items[i]? = some R → R.p s'.heap v → J i s' → KX mu s.heap s'.heap → (∃ h tk, s' = { s₀ with heap := h, toks := tk }) →
      wpAny (model prog w) A (storeName env x v) (fun _ s₂ => wpAny (model prog w) A (execs body env) (fun f s₃ => match f with
        | .next | .cont => J (i + 1) s₃ ∧ KX mu s'.heap s₃.heap ∧ (∃ h tk, s₃ = { s₀ with heap := h, toks := tk })
        | .brk => False
        | .ret u => Q (.ret u) s₃) E' s₂) E' s')
    (k : ∀ s', J items.length s' → KX mu s.heap s'.heap → (∃ h tk, s' = { s₀ with heap := h, toks := tk }) → wpAny (model prog w) A (execs rest env) Q E s')
    (hs : ∀ x, foldedSetIterable iter env x = pure x) :
    wpAny (model prog w) A (execs (.For (.Name x p') iter body [] pos :: rest) env) Q E s := by
  refine wpAny_execs_cons (wpAny_For (hi s _ E hb (F.vars fe) fun v h1 t1 k1 p1 => ?_) hs)
  refine hP h1 v k1 p1 { s with heap := h1, toks := t1 } _ E Kp.rf (fun b hb => let ⟨o, e⟩ := hmu b hb; ⟨o, k1 _ _ e⟩) fun I fp Pi St h2 t2 W st0 hfm hfp hI hfld k2 hit => ?_
  have F2 : Fs s₀ env G { s with heap := h2, toks := t2 } := F.up (k1.tr k2)
  have hI0 : s₀.heap.get? I = none := by
    cases e : s₀.heap.get? I with
    | none => rfl
    | some o => have := k1 _ _ (F.keep _ _ e); rw [this] at hI; cases hI
  have hIs : s.heap.get? I = none := by
    cases e : s.heap.get? I with
    | none => rfl
    | some o => have := k1 _ _ e; rw [this] at hI; cases hI
  refine codeAny_forLoop (fun n s' => ∃ i, n = items.length + 1 - i ∧ i ≤ items.length ∧ J i s' ∧ St i s'.heap ∧ KX mu s.heap s'.heap ∧ ∃ h tk, s' = { s₀ with heap := h, toks := tk })
    ?_ (items.length + 1) ⟨0, rfl, Nat.zero_le _, h0 h2 t2 (k1.tr k2) F2, st0, (k1.tr k2).kx, F2.same⟩
  rintro n s' ⟨i, rfl, hle, hj, st, kx, same⟩
  have kp0 : Kp s₀.heap s'.heap := fun b o e => kx b o (fun hm => by have := hmu0 b hm; rw [this] at e; cases e) (F.keep b o e)
  have step : ∀ h' : Heap, (∀ b o, b ∉ [I] → s'.heap.get? b = some o → h'.get? b = some o) → KN s'.heap h' ∧ Kp s₀.heap h' ∧ KX mu s.heap h' := by
    intro h' kk
    refine ⟨fun b o e hn => kk b o (fun hb => ?_) e, fun b o e => kk b o (fun hb => ?_) (kp0 b o e), fun b o hbm e => kk b o (fun hb => ?_) (kx b o hbm e)⟩
    · have hb : b = I := by simpa using hb
      subst hb
      obtain ⟨o', vs', e1, e2⟩ := hfld i _ st
      rw [e] at e1; cases e1
      exact hn _ e2
    · have hb : b = I := by simpa using hb
      subst hb; rw [hI0] at e; cases e
    · have hb : b = I := by simpa using hb
      subst hb; rw [hIs] at e; cases e
  obtain ⟨hh0, tk0, rfl⟩ := same
  by_cases hlt : i < items.length
  · refine W.item i _ _ _ hlt st fun v' h' tk hPv st' kk => ?_
    obtain ⟨kn, kp0', kx'⟩ := step h' kk
    obtain ⟨R, hR, hRp⟩ := hit i v' hPv
    have hRm : R ∈ items := List.mem_of_getElem? hR
    refine wpAny_assign_Name ?_
    refine wpAny_mono (turn i R _ v' _ hR (hfl R hRm _ _ _ hRp) (hJ i _ h' tk hj kn kp0') kx' ⟨_, _, rfl⟩) (fun _ s₂ h₂ => wpAny_mono h₂ (fun f s₃ hf => ?_) fun _ _ e => e) fun _ _ e => e
    have fin : (J (i + 1) s₃ ∧ KX mu h' s₃.heap ∧ ∃ h tk, s₃ = { s₀ with heap := h, toks := tk }) →
        ∃ m, m < items.length + 1 - i ∧ ∃ i, m = items.length + 1 - i ∧ i ≤ items.length ∧ J i s₃ ∧ St i s₃.heap ∧ KX mu s.heap s₃.heap ∧ ∃ h tk, s₃ = { s₀ with heap := h, toks := tk } := by
      rintro ⟨a, b, c⟩
      exact ⟨items.length + 1 - (i + 1), by omega, i + 1, rfl, hlt, a, W.frame _ _ _ st' fun p hp o e => b p o (hfm p hp) e, kx'.tr b, c⟩
    cases f with
    | next => exact fin hf
    | cont => exact fin hf
    | brk => exact hf.elim
    | ret u => exact hf
  · have hin : i = items.length := by omega
    subst hin
    refine W.done _ _ _ st fun h' tk kk => wpAny_execs_nil ?_
    obtain ⟨kn, kp0', kx'⟩ := step h' kk
    exact k _ (hJ _ _ h' tk hj kn kp0') kx' ⟨_, _, rfl⟩
end
end Mine
namespace Mine
open PySem PyProof.Rows PySem.Calls

/-- a def of the text, where it stands -/
structure FnAt (mg : Str → Option Value) (h : Heap) (name : Str) (params : Arguments) (body : List Stmt) (scope : Scope) (f : Addr) : Prop where
  g : mg name = some (.ref f)
  x : ∃ o pm code doc, h.get? f = some o ∧ o.data = .func (docDef name params body scope pm code doc) ∧ h.CodeRec code name

theorem bindL_other {kd : Str → Option NameKind} {x : Str} : ∀ {b : List (Str × Value)} {m : Str → Option Value}, (∀ p ∈ b, p.1 ≠ x) → bindL kd b m x = m x
  | [], _, _ => rfl
  | (n, v) :: r, m, h => by
    unfold bindL
    rw [bindL_other fun p hp => h p (List.mem_cons_of_mem _ hp)]
    have hn : n ≠ x := h (n, v) List.mem_cons_self
    split
    · simp [Ne.symm hn]
    · rfl
theorem bindC_other {kd : Str → Option NameKind} {x : Str} : ∀ {b : List (Str × Value)} {m : Str → Option Value}, (∀ p ∈ b, p.1 ≠ x) → bindC kd b m x = m x
  | [], _, _ => rfl
  | (n, v) :: r, m, h => by
    unfold bindC
    rw [bindC_other fun p hp => h p (List.mem_cons_of_mem _ hp)]
    have hn : n ≠ x := h (n, v) List.mem_cons_self
    split
    · rfl
    · simp [Ne.symm hn]
theorem bind_zip {kd : Str → Option NameKind} {h : Heap} : ∀ {names : List Str} {us : List Value} {Ps : List VP} {m cm : Str → Option Value}, names.Nodup → All2 h us Ps → names.length = us.length →
    ∀ {x : Str} {P : VP}, (names.zip Ps).lookup x = some P → ∃ v, P.p h v ∧ (kd x = some .local → bindL kd (names.zip us) m x = some v) ∧ (kd x = some .cell → bindC kd (names.zip us) cm x = some v)
  | [], _, _, _, _, _, _, _, x, P, e => by simp at e
  | n :: names, u :: us, Q :: Ps, m, cm, hnd, ⟨hq, hr⟩, hl, x, P, e => by
    have hnd' := List.nodup_cons.mp hnd
    rw [List.zip_cons_cons, List.lookup_cons] at e
    rw [List.zip_cons_cons]
    by_cases hx : x = n
    · subst hx
      simp at e; subst e
      have ho : ∀ p ∈ names.zip us, p.1 ≠ x := fun p hp e => hnd'.1 (e ▸ (List.of_mem_zip hp).1)
      refine ⟨u, hq, fun hk => ?_, fun hk => ?_⟩
      · unfold bindL; rw [bindL_other ho, if_pos hk]; simp
      · unfold bindC; rw [bindC_other ho, if_neg (by rw [hk]; decide)]; simp
    · have : (x == n) = false := beq_eq_false_iff_ne.mpr hx
      rw [this] at e
      obtain ⟨v, h1, h2, h3⟩ := bind_zip (kd := kd) (m := if kd n = some .local then fun y => if y = n then some u else m y else m) (cm := if kd n = some .local then cm else fun y => if y = n then some u else cm y) hnd'.2 hr (by simpa using hl) e
      exact ⟨v, h1, fun hk => by unfold bindL; exact h2 hk, fun hk => by unfold bindC; exact h3 hk⟩

/-- the names of a scope that are cells have their cells -/
def CellsOk (scope : Scope) : Prop := ∀ L x, scope.names.lookup x = some .cell → ((cellsFrom (L + 1) scope.names []).lookup x).isSome = true

theorem cells_names : ∀ (names : List (Str × NameKind)) (L : Nat) (acc : List (Str × Addr)) (x : Str), (names.lookup x = some .cell ∨ (acc.lookup x).isSome = true) → ((cellsFrom L names acc).lookup x).isSome = true := by
  intro names
  induction names with
  | nil => intro L acc x h; rcases h with h | h; · simp at h
           · simpa [cellsFrom] using h
  | cons p r ih =>
    obtain ⟨n, k⟩ := p
    intro L acc x h
    unfold cellsFrom
    by_cases hk : k = .cell
    · subst hk
      simp only [BEq.rfl, if_true]
      refine ih _ _ _ ?_
      by_cases hx : x = n
      · subst hx; right; simp
      · have hb : (x == n) = false := beq_eq_false_iff_ne.mpr hx
        rcases h with h | h
        · left; rw [List.lookup_cons, hb] at h; exact h
        · right; rw [List.lookup_cons, hb]; exact h
    · have : (k == NameKind.cell) = false := by simpa using hk
      simp only [this, Bool.false_eq_true, if_false]
      refine ih _ _ _ ?_
      rcases h with h | h
      · rw [List.lookup_cons] at h
        by_cases hx : x = n
        · subst hx; simp at h; exact absurd h hk
        · have hb : (x == n) = false := beq_eq_false_iff_ne.mpr hx
          rw [hb] at h; exact .inl h
      · exact .inr h
theorem cellsOk (scope : Scope) : CellsOk scope := fun L x h => cells_names scope.names (L + 1) [] x (.inl h)

section
variable {prog : Program} {w : World} {base : Heap} {A : Around}

/-- the end of a body -/
def Ret (s₀ : Shared) (R : VP) (fl : Flow) (s' : Shared) : Prop := ∃ v h' tk, fl = .ret v ∧ s' = { s₀ with heap := h', toks := tk } ∧ Kp s₀.heap h' ∧ R.p h' v

theorem does_def {mg mb : Str → Option Value} {name : Str} {params : Arguments} {body : List Stmt} {scope : Scope} {f : Addr} {Ps : List VP} {R : VP} (names : List Str)
    (B : Base mg mb base) (hf : FnAt mg base name params body scope f) (hroom : A.depth < recursionLimit)
    (hbind : ∀ pm code doc (us : List Value), us.length = names.length → bindArgs (docDef name params body scope pm code doc) ⟨us, []⟩ = pure (names.zip us))
    (hn : names.length = Ps.length) (hnd : names.Nodup) (hkind : ∀ x ∈ names, scope.names.lookup x = some .local ∨ scope.names.lookup x = some .cell)
    (hsq : ∀ P ∈ Ps, Sq P)
    (walk : ∀ (s₀ s : Shared) (env : Env) (E : Value → Shared → Prop), env.scope = scope → FEnv env → Kp base s₀.heap → Fs s₀ env (names.zip Ps) s →
      wpAny (model prog w) (A.deeper env) (execs body env) (Ret s₀ R) E s)
    (hco : scope.isCoroutine = false := by rfl) (hgen : scope.isGenerator = false := by rfl) (hk : scope.kind = .function := by rfl) : Does prog w base A (.ref f) Ps R := by
  obtain ⟨hg, o, pm, code, doc, ho, hdat, hcd⟩ := hf
  intro s us Q E hb hx k
  have hlen : us.length = names.length := hx.length.trans hn.symm
  refine wpAny_call (codeAny_call_cells (binds := names.zip us) hroom (hb _ _ ho) hdat (B.nolimit.keeps hb) (hcd.keeps hb) rfl (hbind pm code doc us hlen) rfl ?_ ?_ hco hgen hk)
  · intro x hxm
    rcases hkind x.1 (List.of_mem_zip hxm).1 with h | h
    · exact .inl h
    · exact .inr ⟨h, cellsOk scope _ _ h⟩
  · intro s₁ ic
    have hfe : FEnv (callEnvC (docDef name params body scope pm code doc) s.heap.objs.size f) := by
      refine ⟨⟨hk, rfl, rfl⟩, fun x hx => ?_⟩
      have := cellsOk scope s.heap.objs.size x hx
      exact Option.isSome_iff_exists.mp this
    have hF : Fs s (callEnvC (docDef name params body scope pm code doc) s.heap.objs.size f) (names.zip Ps) s₁ := by
      refine ⟨⟨_, _, ic, fun x P e => ?_⟩, fun x P e => ?_⟩
      · obtain ⟨v, h1, h2, h3⟩ := bind_zip (kd := (callEnvC (docDef name params body scope pm code doc) s.heap.objs.size f).kindOf) (m := fun _ => none) (cm := fun _ => none) hnd hx hlen.symm e
        refine ⟨v, ?_, P.up _ _ _ ic.toInCall.keep h1⟩
        have hm : x ∈ names := (List.of_mem_zip (mem_of_lookup e)).1
        unfold slotv
        rcases hkind x hm with h | h
        · have h' : (callEnvC (docDef name params body scope pm code doc) s.heap.objs.size f).kindOf x = some .local := h
          rw [h']; exact h2 h'
        · have h' : (callEnvC (docDef name params body scope pm code doc) s.heap.objs.size f).kindOf x = some .cell := h
          rw [h']; exact h3 h'
      · exact hsq P (List.of_mem_zip (mem_of_lookup e)).2
    refine wpAny_mono (walk s s₁ _ _ rfl hfe hb hF) (fun fl s' hr => ?_) fun _ _ e => e
    obtain ⟨v, h', tk, rfl, rfl, kk, hR⟩ := hr
    exact k v h' tk kk hR

theorem Fs.ret {s₀ s : Shared} {env : Env} {G : List (Str × VP)} {R : VP} {v : Value} {h' : Heap} {tk : Nat} (F : Fs s₀ env G s) (kk : Kp s.heap h') (hR : R.p h' v) : Ret s₀ R (.ret v) { s with heap := h', toks := tk } := by
  obtain ⟨h, t, rfl⟩ := F.same
  exact ⟨v, h', tk, rfl, rfl, F.keep.tr kk, hR⟩

theorem Does.mono {base' : Heap} {f : Value} {Ps : List VP} {R : VP} (d : Does prog w base A f Ps R) (k : Kp base base') : Does prog w base' A f Ps R := fun s us Q E hb => d s us Q E (k.tr hb)

/-- a name or anything else that holds an object which base knows -/
theorem PE.known {env : Env} {G : List (Str × VP)} {e : Expr} {a : Addr} {R : VP} (h : PE prog w base A env G e (vr a)) (hr : R.p base (.ref a)) : PE prog w base A env G e R := by
  intro s Q E hb hv k
  refine h s Q E hb hv fun v h' tk kk r => ?_
  have e1 : v = .ref a := r
  subst e1
  exact k _ h' tk kk (R.up _ _ _ (hb.tr kk) hr)
end
end Mine
namespace Mine
open PySem PyProof.Rows PySem.Calls

theorem kd {env : Env} {sc : Scope} {x : Str} {k : NameKind} (h : env.scope = sc) (hk : sc.names.lookup x = some k) : env.kindOf x = some k := by
  show env.scope.names.lookup x = some k
  rw [h]; exact hk
theorem kdl {env : Env} {sc : Scope} {x : Str} (h : env.scope = sc) (hk : sc.names.lookup x = some .local ∨ sc.names.lookup x = some .cell) : env.kindOf x = some .local ∨ env.kindOf x = some .cell := by
  rcases hk with hk | hk
  · exact .inl (kd h hk)
  · exact .inr (kd h hk)

section
variable {prog : Program} {w : World} {base : Heap} {A : Around} {env : Env} {G : List (Str × VP)}

theorem PE.globi {mg mb : Str → Option Value} {x : Str} {pos : Pos} {i : Int} {sc : Scope} (he : env.scope = sc) (ok : EnvOk env) (B : Base mg mb base) (hv : ∃ t, mg x = some (.int i t)) (hx : sc.names.lookup x = some .globalImplicit)
    (hd : (x == ("__debug__" : Str)) = false) : PE prog w base A env G (.Name x pos) (vi i) := by
  obtain ⟨t, hv⟩ := hv
  exact (PE.glob ok B (kd he hx) hv hd).weaken fun _ v e => ⟨t, e⟩

theorem do_min {a b : Int} (hh : A.handled = none) : Does prog w base A (.builtin "min") [vi a, vi b] (vi (min a b)) := by
  intro s us Q E hb x k
  match us, x with
  | [_, _], ⟨⟨t, rfl⟩, ⟨u, rfl⟩, _⟩ =>
    refine min_two_ints hh fun h' tk hk => ?_
    refine k _ h' tk hk ?_
    by_cases hc : b < a
    · rw [if_pos hc]; exact ⟨u, by rw [Int.min_eq_right (Int.le_of_lt hc)]⟩
    · rw [if_neg hc]; exact ⟨t, by rw [Int.min_eq_left (by omega)]⟩

theorem PE.lower {o : Expr} {apos pos : Pos} {l : List Nat} (ho : PE prog w base A env G o (vs (S l))) (ha : ∀ c ∈ l, c < 128) (hz : l.length ≤ 1000)
    (hbase : attributeBase o "lower" env (eval o env) = eval o env) (hline : (apos.endLine == pos.line) = true) :
    PE prog w base A env G (.Call (.Attribute o "lower" apos) [] [] pos) (vs (S (l.map lo1))) := by
  intro s Q E hb hv k
  refine Call_method0 hbase hline (ho s _ E hb hv fun v h1 t1 k1 p1 => ?_)
  obtain ⟨t, rfl⟩ := p1
  refine SBL.lower (by rw [S_len]; omega) fun _ => ?_
  rw [lower_ascii (x := S l) (by simpa [S] using ha)]
  have : (⟨(S l).cps.map lo1⟩ : Str) = S (l.map lo1) := by simp [S]
  rw [this]
  exact k _ h1 _ k1 ⟨_, rfl⟩
theorem PE.upper {o : Expr} {apos pos : Pos} {l : List Nat} (ho : PE prog w base A env G o (vs (S l))) (ha : ∀ c ∈ l, c < 128) (hz : l.length ≤ 1000)
    (hbase : attributeBase o "upper" env (eval o env) = eval o env) (hline : (apos.endLine == pos.line) = true) :
    PE prog w base A env G (.Call (.Attribute o "upper" apos) [] [] pos) (vs (S (l.map up1))) := by
  intro s Q E hb hv k
  refine Call_method0 hbase hline (ho s _ E hb hv fun v h1 t1 k1 p1 => ?_)
  obtain ⟨t, rfl⟩ := p1
  refine SBL.upper (by rw [S_len]; omega) fun _ => ?_
  rw [upper_ascii (x := S l) (by simpa [S] using ha)]
  have : (⟨(S l).cps.map up1⟩ : Str) = S (l.map up1) := by simp [S]
  rw [this]
  exact k _ h1 _ k1 ⟨_, rfl⟩
end

section
variable {prog : Program} {w : World} {base : Heap} {A : Around} {E : Value → Shared → Prop} {s₀ s : Shared} {env : Env} {G : List (Str × VP)}

theorem ex_set {o i value : Expr} {pos' pos : Pos} {rest : List Stmt} {P : VP} {r : Addr} {k : Int} {us : List Value} {Q : Flow → Shared → Prop} (fe : FEnv env) (hb : Kp base s.heap) (F : Fs s₀ env G s)
    (hf : ∀ x P, G.lookup x = some P → Flat P) (hs : swapsWith value (some (.Subscript o i pos')) pos.line env = pure false) (hfP : Flat P) (he : PE prog w base A env G value P)
    (ho : PE prog w base A env G o (vr r)) (hi : PE prog w base A env G i (vi k)) (hl : s.heap.IsList r us.toArray) (hr : s₀.heap.get? r = none) (h0 : 0 ≤ k) (hfit : k < 2 ^ 63) (hlen : k < us.length)
    (kk : ∀ v h' tk, KX [r] s.heap h' → P.p h' v → h'.IsList r (us.set k.toNat v).toArray → Fs s₀ env G { s with heap := h', toks := tk } → wpAny (model prog w) A (execs rest env) Q E { s with heap := h', toks := tk }) :
    wpAny (model prog w) A (execs (.Assign [.Subscript o i pos'] value pos :: rest) env) Q E s := by
  refine wpAny_execs_cons (wpAny_Assign_Subscript (he s _ E hb (F.vars fe) fun v h1 t1 k1 p1 => ?_) hs)
  refine ho _ _ E (hb.tr k1) ((F.vars fe).up k1) fun ov h2 t2 k2 p2 => ?_
  refine hi _ _ E (hb.tr (k1.tr k2)) ((F.vars fe).up (k1.tr k2)) fun iv h3 t3 k3 p3 => ?_
  have e2 : ov = .ref r := p2
  subst e2
  obtain ⟨t, rfl⟩ := p3
  have k4 := k1.tr (k2.tr k3)
  have F3 := F.up (tk := t3) k4
  have hl3 : h3.IsList r us.toArray := isList_ks k4.ks hl
  refine wpAny_setItem_list hl3 h0 hfit (by simpa using hlen) fun h' hl' hs' => ?_
  have hset : us.toArray.setIfInBounds k.toNat v = (us.set k.toNat v).toArray := by simp
  rw [hset] at hl'
  obtain ⟨ol, hol, _, nn, hod⟩ := id hl3
  have F4 := F3.mutd (tk := t3) hf hs' hr ⟨ol, hol, by simp [isSeq, hod]⟩
  exact kk v h' t3 (fun b o hb e => (hs'.2 b (fun q => hb (q ▸ List.mem_cons_self))).trans (k4 b o e)) (hfP _ _ _ p1) hl' F4

theorem Fs.fa_fresh (F : Fs s₀ env G s) : ∀ b ∈ fa env, s₀.heap.get? b = none := by
  obtain ⟨m, cm, ic, hv⟩ := F.ic
  have big : ∀ b, s₀.heap.objs.size ≤ b → s₀.heap.get? b = none := fun b hb => by
    cases e : s₀.heap.get? b with
    | none => rfl
    | some o => exact absurd (Heap.lt_size e) (Nat.not_lt.mpr hb)
  intro b hb
  unfold fa at hb
  rcases List.mem_cons.mp hb with rfl | hb
  · exact big _ ic.toInCall.fresh
  · obtain ⟨p, hp, e⟩ := List.mem_filterMap.mp hb
    exact big _ (Nat.le_trans ic.toInCall.fresh (Nat.le_of_lt (ic.above p.1 b (mem_of_lookup e))))
theorem Fs.fa_some (F : Fs s₀ env G s) : ∀ b ∈ fa env, ∃ o, s.heap.get? b = some o ∧ isSeq o = false := by
  obtain ⟨m, cm, ic, hv⟩ := F.ic
  intro b hb
  unfold fa at hb
  rcases List.mem_cons.mp hb with rfl | hb
  · obtain ⟨o, es, ep, h1, h2, _⟩ := ic.toInCall.ns
    exact ⟨o, h1, by simp [isSeq, h2]⟩
  · obtain ⟨p, hp, e⟩ := List.mem_filterMap.mp hb
    obtain ⟨o, h1, h2⟩ := ic.cell p.1 b e
    exact ⟨o, h1, by simp [isSeq, h2]⟩
theorem Fs.not_fa (F : Fs s₀ env G s) {r : Addr} {us : Array Value} (hl : s.heap.IsList r us) : r ∉ fa env := by
  intro h
  obtain ⟨o, h1, h2⟩ := F.fa_some r h
  obtain ⟨o', h3, _, n, h4⟩ := hl
  rw [h1] at h3; cases h3
  simp [isSeq, h4] at h2
theorem isList_kx {mu : List Addr} {h h' : Heap} {r : Addr} {us : Array Value} (k : KX mu h h') (hr : r ∉ mu) (hl : h.IsList r us) : h'.IsList r us := by
  obtain ⟨o, h1, h2⟩ := hl
  exact ⟨o, k r o hr h1, h2⟩

/-- a for as its invariant: for a body that returns early too -/
theorem It.of_range {a b c : Int} {n : Nat} {mu : List Addr} (hh : A.handled = none) (hsmall : Builtin.Range.small a b c = true) (hn : Builtin.Range.rangeSize a b c = n) :
    ∀ h' v, (vrg a b c).p h' v → It prog w A mu ((rgi a c n).map vi) h' v := fun _ _ hv => it_range hh hv hsmall hn
end
end Mine
namespace Mine
open PySem PyProof.Rows PySem.Calls

/-- what _substitution_cost tells -/
def sc (a b : Nat) : Int := if a = b then 0 else if lo1 a = lo1 b then 1 else 2

def stripP : List Nat → List Nat → List Nat × List Nat
  | x :: a, y :: b => if x = y then stripP a b else (x :: a, y :: b)
  | a, b => (a, b)
def strip (a b : List Nat) : List Nat × List Nat :=
  ((stripP (stripP a b).1.reverse (stripP a b).2.reverse).1.reverse, (stripP (stripP a b).1.reverse (stripP a b).2.reverse).2.reverse)

def inner (bc : Nat) : List Nat → List Int → Int → Int → Int → List Int × Int × Int
  | c :: a, r :: row, d, res, mn =>
    let r' := min (min res r + 2) (d + sc bc c)
    let z := inner bc a row r r' (if r' < mn then r' else mn)
    (r' :: z.1, z.2.1, z.2.2)
  | _, row, _, res, mn => (row, res, mn)
def big : Int := 9223372036854775807
def outer (a : List Nat) (m : Int) : List Nat → Int → List Int → Int → Int
  | [], _, _, res => res
  | c :: b, i, row, _ =>
    let z := inner c a row (i * 2) (i * 2) big
    if m < z.2.2 then m + 1 else outer a m b (i + 1) z.1 z.2.1
def core (a b : List Nat) (m : Int) : Int :=
  if m < ((b.length : Int) - a.length) * 2 then m + 1 else outer a m b 0 (rgi 2 2 a.length) 0
def lev (a b : List Nat) (m : Int) : Int :=
  if a = b then 0 else
  if (strip a b).1 = [] ∨ (strip a b).2 = [] then 2 * (((strip a b).1.length : Int) + (strip a b).2.length)
  else if (strip a b).2.length < (strip a b).1.length then core (strip a b).2 (strip a b).1 m else core (strip a b).1 (strip a b).2 m

theorem stripP_le : ∀ a b : List Nat, (stripP a b).1.length ≤ a.length ∧ (stripP a b).2.length ≤ b.length
  | x :: a, y :: b => by
    unfold stripP
    split
    · have := stripP_le a b; simp; omega
    · simp
  | [], b => by cases b <;> simp [stripP]
  | _ :: _, [] => by simp [stripP]
theorem strip_le (a b : List Nat) : (strip a b).1.length ≤ a.length ∧ (strip a b).2.length ≤ b.length := by
  have h1 := stripP_le a b
  have h2 := stripP_le (stripP a b).1.reverse (stripP a b).2.reverse
  simp only [strip, List.length_reverse] at h2 ⊢
  omega
theorem stripP_mem : ∀ a b : List Nat, (∀ c ∈ (stripP a b).1, c ∈ a) ∧ (∀ c ∈ (stripP a b).2, c ∈ b)
  | x :: a, y :: b => by
    unfold stripP
    split
    · have := stripP_mem a b
      exact ⟨fun c h => List.mem_cons_of_mem _ (this.1 c h), fun c h => List.mem_cons_of_mem _ (this.2 c h)⟩
    · exact ⟨fun _ h => h, fun _ h => h⟩
  | [], b => by cases b <;> simp [stripP]
  | _ :: _, [] => by simp [stripP]
theorem strip_mem (a b : List Nat) : (∀ c ∈ (strip a b).1, c ∈ a) ∧ (∀ c ∈ (strip a b).2, c ∈ b) := by
  have h1 := stripP_mem a b
  have h2 := stripP_mem (stripP a b).1.reverse (stripP a b).2.reverse
  simp only [strip, List.mem_reverse] at h2 ⊢
  exact ⟨fun c h => h1.1 c (h2.1 c h), fun c h => h1.2 c (h2.2 c h)⟩

/-! the steps of the two loops that strip -/
theorem stripP_step {a b : List Nat} {p : Nat} (ha : p < a.length) (hb : p < b.length) (e : a[p]? = b[p]?) : stripP (a.drop p) (b.drop p) = stripP (a.drop (p + 1)) (b.drop (p + 1)) := by
  rw [List.drop_eq_getElem_cons ha, List.drop_eq_getElem_cons hb]
  rw [List.getElem?_eq_getElem ha, List.getElem?_eq_getElem hb] at e
  simp only [Option.some.injEq] at e
  conv => lhs; unfold stripP
  rw [if_pos e]
theorem stripP_stop {a b : List Nat} {p : Nat} (h : a.length ≤ p ∨ b.length ≤ p ∨ a[p]? ≠ b[p]?) : stripP (a.drop p) (b.drop p) = (a.drop p, b.drop p) := by
  by_cases ha : p < a.length
  · by_cases hb : p < b.length
    · rw [List.drop_eq_getElem_cons ha, List.drop_eq_getElem_cons hb]
      have : a[p] ≠ b[p] := by
        rcases h with h | h | h
        · omega
        · omega
        · rw [List.getElem?_eq_getElem ha, List.getElem?_eq_getElem hb] at h
          simpa using h
      unfold stripP
      rw [if_neg this]
    · rw [List.drop_eq_nil_of_le (by omega : b.length ≤ p)]
      cases a.drop p <;> simp [stripP]
  · rw [List.drop_eq_nil_of_le (by omega : a.length ≤ p)]
    cases b.drop p <;> simp [stripP]

/-! cuts -/
theorem cut_from (l : List Nat) {p : Nat} (h : p ≤ l.length) : cut l (some (p : Int)) none = l.drop p := by
  have e : clipN l.length (some (p : Int)) 0 = p := by unfold clipN; simp only; rw [if_neg (by omega)]; omega
  unfold cut
  rw [e]
  exact List.take_of_length_le (by simp [clipN])
theorem cut_all (l : List Nat) : cut l none none = l := by simp [cut, clipN]
theorem cut_back (l : List Nat) {q : Nat} (h : q ≤ l.length) (h0 : 0 < q) : cut l none (some (-(q : Int))) = (l.reverse.drop q).reverse := by
  have e : clipN l.length (some (-(q : Int))) l.length = l.length - q := by unfold clipN; simp only; rw [if_pos (by omega)]; omega
  unfold cut
  rw [e]
  simp [clipN, List.drop_reverse]
end Mine
namespace Mine
open PySem PyProof.Rows PySem.Calls

abbrev pw : Program := PySem.Challenge.pw_mj0341_02
def fbody (i : Nat) : List Stmt := match pw.main.body[i]? with | some (.FunctionDef _ _ b _ _ _ _ _ _ _) => b | _ => []
def fargs (i : Nat) : Arguments := match pw.main.body[i]? with | some (.FunctionDef _ a _ _ _ _ _ _ _ _) => a | _ => ⟨[], [], none, [], [], none, []⟩
def fscope (i : Nat) : Scope := match pw.main.body[i]? with | some (.FunctionDef _ _ _ _ _ _ s _ _ _) => s | _ => pw.main.scope

structure OkA (A : Around) (n : Nat) : Prop where
  h : A.handled = none
  d : A.depth < n
theorem OkA.deeper {A : Around} {n : Nat} (h : OkA A n) (env : Env) : OkA (A.deeper env) (n + 1) := ⟨h.h, Nat.succ_lt_succ h.d⟩
theorem OkA.room {A : Around} {n : Nat} (h : OkA A n) (hn : n ≤ 1000) : A.depth < recursionLimit := Nat.lt_of_lt_of_le h.d hn

/-- what the top leaves, for the first part of the text -/
structure W0 (mg mb : Str → Option Value) (base : Heap) : Prop where
  B : Base mg mb base
  mc : ∃ t, mg "_MOVE_COST" = some (.int 2 t)
  cc : ∃ t, mg "_CASE_COST" = some (.int 1 t)
  ms : ∃ t, mg "_MAX_STRING_SIZE" = some (.int 40 t)
  fsub : ∃ f, FnAt mg base "_substitution_cost" (fargs 4) (fbody 4) (fscope 4) f
  flev : ∃ f, FnAt mg base "_levenshtein_distance" (fargs 5) (fbody 5) (fscope 5) f
  nlen : mg "len" = none
  nmin : mg "min" = none
  nrange : mg "range" = none
  nlist : mg "list" = none
theorem FnAt.mono {mg : Str → Option Value} {h h' : Heap} {name : Str} {params : Arguments} {body : List Stmt} {scope : Scope} {f : Addr} (x : FnAt mg h name params body scope f) (k : Kp h h') : FnAt mg h' name params body scope f := by
  obtain ⟨g, o, pm, code, doc, h1, h2, h3⟩ := x
  exact ⟨g, o, pm, code, doc, k _ _ h1, h2, h3.keeps k⟩
theorem Base.mono {mg mb : Str → Option Value} {h h' : Heap} (x : Base mg mb h) (k : Kp h h') : Base mg mb h' := ⟨x.g.keeps k, x.b.keeps k, x.nolimit.keeps k, x.bb⟩
theorem W0.mono {mg mb : Str → Option Value} {h h' : Heap} (x : W0 mg mb h) (k : Kp h h') : W0 mg mb h' :=
  ⟨x.B.mono k, x.mc, x.cc, x.ms, let ⟨f, y⟩ := x.fsub; ⟨f, y.mono k⟩, let ⟨f, y⟩ := x.flev; ⟨f, y.mono k⟩, x.nlen, x.nmin, x.nrange, x.nlist⟩

section
variable {prog : Program} {w : World} {base : Heap} {A : Around} {env : Env} {G : List (Str × VP)} {mg mb : Str → Option Value} {sc' : Scope}

/-- a call of a def of the text -/
theorem PE.callD {name : Str} {p pos : Pos} {e : Expr} {rest : List Expr} {params : Arguments} {body : List Stmt} {scope : Scope} {f : Addr} {Ps : List VP} {R : VP} (he : env.scope = sc') (ok : EnvOk env) (B : Base mg mb base)
    (hf : FnAt mg base name params body scope f) (hx : sc'.names.lookup name = some .globalImplicit) (hd : (name == ("__debug__" : Str)) = false)
    (ha : PA prog w base A env G pos (e :: rest) Ps) (hs : starEach (e :: rest) env = (false, eval e env) :: starEach rest env) (hdo : Does prog w base A (.ref f) Ps R) :
    PE prog w base A env G (.Call (.Name name p) (e :: rest) [] pos) R := by
  obtain ⟨hg, o, pm, code, doc, ho, hdat, hcd⟩ := hf
  exact PE.callF ho hdat (PE.glob ok B (kd he hx) hg hd) ha hs hdo

theorem PE.bcall {x : Str} {p pos : Pos} {e : Expr} {rest : List Expr} {id : String} {Ps : List VP} {R : VP} (he : env.scope = sc') (ok : EnvOk env) (B : Base mg mb base) (hg : mg x = none) (hv : bootBuiltins x = some (.builtin id))
    (hx : sc'.names.lookup x = some .globalImplicit) (hn : x ≠ "__name__") (hd : (x == ("__debug__" : Str)) = false) (hdo : Does prog w base A (.builtin id) Ps R)
    (ha : PA prog w base A env G pos (e :: rest) Ps) (hs : starEach (e :: rest) env = (false, eval e env) :: starEach rest env) :
    PE prog w base A env G (.Call (.Name x p) (e :: rest) [] pos) R := PE.callB (PE.built ok B (kd he hx) hg hv hn hd) ha hs hdo
theorem PE.tcall {x : Str} {p pos : Pos} {e : Expr} {rest : List Expr} {id : String} {Ps : List VP} {R : VP} (he : env.scope = sc') (ok : EnvOk env) (B : Base mg mb base) (hg : mg x = none) (hv : bootBuiltins x = some (.type id))
    (hx : sc'.names.lookup x = some .globalImplicit) (hn : x ≠ "__name__") (hd : (x == ("__debug__" : Str)) = false) (hdo : Does prog w base A (.type id) Ps R)
    (ha : PA prog w base A env G pos (e :: rest) Ps) (hs : starEach (e :: rest) env = (false, eval e env) :: starEach rest env) :
    PE prog w base A env G (.Call (.Name x p) (e :: rest) [] pos) R := PE.callT (PE.built ok B (kd he hx) hg hv hn hd) ha hs hdo
/-- len(text) -/
theorem PE.len_s {p pos : Pos} {e : Expr} {l : List Nat} (he : env.scope = sc') (ok : EnvOk env) (B : Base mg mb base) (hg : mg "len" = none) (hz : l.length < 2 ^ 62)
    (hx : sc'.names.lookup ("len" : Str) = some .globalImplicit) (h : PE prog w base A env G e (vs (S l))) (hs : starEach [e] env = (false, eval e env) :: starEach [] env) :
    PE prog w base A env G (.Call (.Name "len" p) [e] [] pos) (vi l.length) :=
  PE.bcall he ok B hg rfl hx (by decide) rfl (do_len_s hz) (PA.cons h PA.nil hs) hs
end

section
variable {prog : Program} {w : World} {base : Heap} {A : Around} {mg mb : Str → Option Value}

theorem sq_flat2 {P Q : VP} (h1 : Flat P) (h2 : Flat Q) : ∀ X ∈ [P, Q], Sq X := by
  intro X hX; simp at hX; rcases hX with rfl | rfl
  · exact h1.sq
  · exact h2.sq

theorem c_sub (W : W0 mg mb base) (hA : OkA A 990) {f : Addr} (hf : FnAt mg base "_substitution_cost" (fargs 4) (fbody 4) (fscope 4) f) {a b : Nat} (ha : a < 128) (hb : b < 128) :
    Does prog w base A (.ref f) [vs (S [a]), vs (S [b])] (vi (sc a b)) := by
  refine does_def ["ch_a", "ch_b"] W.B hf (hA.room (by decide)) ?_ rfl (by decide) (by decide) (sq_flat2 (flat_vs _) (flat_vs _)) ?_
  · intro pm code doc us h
    rcases us with _ | ⟨x, _ | ⟨y, _ | ⟨z, us⟩⟩⟩ <;> simp at h
    rfl
  intro s₀ s env E he fe hb0 F
  have ok := fe.toEnvOk
  refine ex_if1 (base := base) fe (hb0.tr F.keep) F (PT.cmp (PE.name ok rfl rfl) (PE.name ok rfl rfl) oc_eqs rfl) ?_ ?_
  · intro hc h1 t1 k1 F1
    refine ex_ret (base := base) fe (hb0.tr F1.keep) F1 PE.cint fun v h2 t2 k2 p => F1.ret k2 ?_
    have : a = b := by simpa using hc
    subst this
    simpa [sc] using p
  intro hc h1 t1 k1 F1
  have hab : a ≠ b := by simpa using hc
  refine ex_if1 (base := base) fe (hb0.tr F1.keep) F1 (PT.cmp (PE.lower (PE.name ok rfl rfl) (by simpa using ha) (by simp) rfl rfl) (PE.lower (PE.name ok rfl rfl) (by simpa using hb) (by simp) rfl rfl) oc_eqs rfl) ?_ ?_
  · intro hc' h2 t2 k2 F2
    refine ex_ret (base := base) fe (hb0.tr F2.keep) F2 (PE.globi he ok W.B W.cc rfl rfl) fun v h3 t3 k3 p => F2.ret k3 ?_
    have e1 : lo1 a = lo1 b := by simpa using hc'
    simpa [sc, hab, e1] using p
  · intro hc' h2 t2 k2 F2
    refine ex_ret (base := base) fe (hb0.tr F2.keep) F2 (PE.globi he ok W.B W.mc rfl rfl) fun v h3 t3 k3 p => F2.ret k3 ?_
    have e1 : ¬ lo1 a = lo1 b := by simpa using hc'
    simpa [sc, hab, e1] using p
end
end Mine
namespace Mine
open PySem PyProof.Rows PySem.Calls

theorem rsize01 (n : Nat) : Builtin.Range.rangeSize 0 (n : Int) 1 = (n : Nat) := by
  unfold Builtin.Range.rangeSize
  simp
  omega
theorem small01 {n : Nat} (h : n ≤ 1000000) : Builtin.Range.small 0 (n : Int) 1 = true := by
  unfold Builtin.Range.small
  rw [rsize01]
  simp [Builtin.Range.rangeFitsLong]
  omega
theorem flatG {G : List (Str × VP)} (h : ∀ p ∈ G, Flat p.2) : ∀ x P, G.lookup x = some P → Flat P := fun x P e => h (x, P) (mem_of_lookup e)

section
variable {prog : Program} {w : World} {base : Heap} {A : Around} {mg mb : Str → Option Value} {E : Value → Shared → Prop} {s₀ s : Shared} {env : Env}

theorem inner_drop {bc : Nat} {a : List Nat} {row : List Int} {d res mn : Int} {i : Nat} (hi : i < a.length) {r : Int} {rest : List Int} (hr : row = r :: rest) :
    inner bc (a.drop i) row d res mn =
      let r' := min (min res r + 2) (d + sc bc a[i])
      let z := inner bc (a.drop (i + 1)) rest r r' (if r' < mn then r' else mn)
      (r' :: z.1, z.2.1, z.2.2) := by
  subst hr
  rw [List.drop_eq_getElem_cons hi]
  rfl

def forBody (s : Option Stmt) : List Stmt := match s with | some (.For _ _ b _ _) => b | _ => []
abbrev bodyIn : List Stmt := forBody (fbody 5)[15]?

def SubOk : List (Str × VP) → List (Str × VP) → Prop
  | [], _ => True
  | (x, P) :: r, G => G.lookup x = some P ∧ SubOk r G
theorem SubOk.get : ∀ {G' G : List (Str × VP)}, SubOk G' G → ∀ x P, G'.lookup x = some P → G.lookup x = some P
  | [], _, _, _, _, e => by simp at e
  | (y, Q) :: r, G, ⟨h, t⟩, x, P, e => by
    rcases lookup_cons_cases e with ⟨rfl, rfl⟩ | ⟨_, e⟩
    · exact h
    · exact SubOk.get t x P e
theorem Fs.sl {G G' : List (Str × VP)} (F : Fs s₀ env G s) (h : SubOk G' G) : Fs s₀ env G' s := F.sub (SubOk.get h)
theorem all2_vi {h h' : Heap} {us : List Value} {l : List Int} (x : All2 h us (l.map vi)) : All2 h' us (l.map vi) := by
  induction l generalizing us with
  | nil => cases us with
    | nil => trivial
    | cons _ _ => exact x.elim
  | cons a r ih => cases us with
    | nil => exact x.elim
    | cons _ _ => exact ⟨x.1, ih x.2⟩
theorem all2_set {h : Heap} {us : List Value} {l : List Int} {v : Value} {y : Int} (x : All2 h us (l.map vi)) (hv : (vi y).p h v) (i : Nat) : All2 h (us.set i v) ((l.set i y).map vi) := by
  induction l generalizing us i with
  | nil => cases us with
    | nil => trivial
    | cons _ _ => exact x.elim
  | cons a r ih => cases us with
    | nil => exact x.elim
    | cons u us => cases i with
      | zero => exact ⟨hv, x.2⟩
      | succ i => exact ⟨x.1, ih x.2 i⟩
theorem rgi01_get {n i : Nat} {R : VP} (h : ((rgi 0 1 n).map vi)[i]? = some R) : i < n ∧ R = vi i := by
  have hl := (List.getElem?_eq_some_iff.mp h).1
  simp [rgi] at hl
  simp [rgi, hl] at h
  exact ⟨hl, h.symm⟩
theorem OkA.mono {A : Around} {n k : Nat} (h : OkA A n) (hk : n ≤ k) : OkA A k := ⟨h.h, Nat.lt_of_lt_of_le h.d hk⟩
theorem seqIx {n i : Nat} (h : i < n) : seqIndex? (i : Int) n = some i := by
  unfold seqIndex?
  have h1 : ¬ ((i : Int) < 0) := by omega
  simp [h1, h]

/-- the inner loop -/
theorem lev_in (W : W0 mg mb base) (hA : OkA A 989) (he : env.scope = fscope 5) (fe : FEnv env) {a : List Nat} {bc : Nat} {m bi : Int} {b : List Nat} {r : Addr} {us : List Value} {row : List Int} {Q : Flow → Shared → Prop}
    (ha : ∀ c ∈ a, c < 128) (hbc : bc < 128) (hal : a.length ≤ 40) (hrow : row.length = a.length) (hb : Kp base s₀.heap) (hr : s₀.heap.get? r = none) {d0 : Int}
    (F : Fs s₀ env [("minimum", vi big), ("result", vi d0), ("distance", vi d0), ("bchar", vs (S [bc])), ("bindex", vi bi), ("a", vs (S a)), ("b", vs (S b)), ("max_cost", vi m), ("row", vr r)] s)
    (hl : s.heap.IsList r us.toArray) (hx : All2 s.heap us (row.map vi))
    (k : ∀ s' us', Fs s₀ env [("minimum", vi (inner bc a row d0 d0 big).2.2), ("result", vi (inner bc a row d0 d0 big).2.1), ("a", vs (S a)), ("b", vs (S b)), ("max_cost", vi m), ("row", vr r)] s' →
      s'.heap.IsList r us'.toArray → All2 s'.heap us' ((inner bc a row d0 d0 big).1.map vi) → KX (r :: fa env) s.heap s'.heap →
      wpAny (model prog w) A (execs (bodyIn.drop 4) env) Q E s') :
    wpAny (model prog w) A (execs (bodyIn.drop 3) env) Q E s := by
  have ok := fe.toEnvOk
  have hrf : r ∉ fa env := F.not_fa hl
  refine ex_for (base := base) fe (hb.tr F.keep) F (r :: fa env) ((rgi 0 1 a.length).map vi)
    (PE.tcall he ok W.B W.nrange rfl rfl (by decide) rfl do_range1 (PA.cons (PE.len_s he ok W.B W.nlen (by omega) rfl (PE.name ok rfl rfl) rfl) PA.nil rfl) rfl)
    (fun h' v _ hv => it_range hA.h hv (small01 (by omega)) (rsize01 _)) ?_ ?_ ?_
    (fun i s' => i ≤ a.length ∧ ∃ (d res mn : Int) (done todo : List Int) (us' : List Value), done.length = i ∧ todo.length = a.length - i ∧
      inner bc a row d0 d0 big = (done ++ (inner bc (a.drop i) todo d res mn).1, (inner bc (a.drop i) todo d res mn).2.1, (inner bc (a.drop i) todo d res mn).2.2) ∧
      s'.heap.IsList r us'.toArray ∧ All2 s'.heap us' ((done ++ todo).map vi) ∧
      Fs s₀ env [("minimum", vi mn), ("result", vi res), ("distance", vi d), ("bchar", vs (S [bc])), ("a", vs (S a)), ("b", vs (S b)), ("max_cost", vi m), ("row", vr r)] s')
    ?_ ?_ ?_ ?_ (by intro x; rfl)
  · intro R hR
    obtain ⟨i, _, rfl⟩ := List.mem_map.mp hR
    exact flat_vi i
  · intro b hbm
    rcases List.mem_cons.mp hbm with rfl | hbm
    · obtain ⟨o, h1, _⟩ := hl; exact ⟨o, h1⟩
    · obtain ⟨o, h1, _⟩ := F.fa_some b hbm; exact ⟨o, h1⟩
  · intro b hbm
    rcases List.mem_cons.mp hbm with rfl | hbm
    · exact hr
    · exact F.fa_fresh b hbm
  · intro h' tk kp F'
    refine ⟨Nat.zero_le _, d0, d0, big, [], row, us, rfl, by simpa using hrow, by simp, isList_ks kp.ks hl, hx.up kp, F'.sl ⟨rfl, rfl, rfl, rfl, rfl, rfl, rfl, rfl, trivial⟩⟩
  · rintro i s' h' tk ⟨hi, d, res, mn, done, todo, us', e1, e2, e3, hl', hx', F'⟩ kn k0
    exact ⟨hi, d, res, mn, done, todo, us', e1, e2, e3, isList_ks kn.ks hl', all2_vi hx', F'.kn kn k0⟩
  · rintro i R s' v E' hR hRv ⟨hi, d, res, mn, done, todo, us', e1, e2, e3, hl', hx', F'⟩ kx hsame
    obtain ⟨hlt, rfl⟩ := rgi01_get hR
    obtain ⟨r0, todo', rfl⟩ : ∃ r0 t, todo = r0 :: t := by
      cases todo with
      | nil => simp at e2; omega
      | cons x t => exact ⟨x, t, rfl⟩
    rw [inner_drop hlt rfl] at e3
    refine store_ fe F' (kdl he (.inl rfl)) hRv (flat_vi _).sq fun h1 t1 k1 F1 => ?_
    have hl1 := isList_ks k1.ks hl'
    obtain ⟨f, hf⟩ := W.fsub
    have hai : a[i]? = some a[i] := List.getElem?_eq_getElem hlt
    have hci : a[i] < 128 := ha _ (List.getElem_mem hlt)
    refine ex_assign (base := base) fe (hb.tr F1.keep) F1 (kdl he (.inl rfl)) rfl (flat_vi _).sq
      (PE.bin (PE.name ok rfl rfl) (PE.callD he ok W.B hf rfl rfl (PA.cons (PE.name ok rfl rfl) (PA.cons (PE.item_s (l := a) (i := (i : Int)) (c := a[i]) (PE.name ok rfl rfl) (PE.name ok rfl rfl) (by omega) (by rw [seqIx hlt]; simp) (by intro _ _; rfl)) PA.nil rfl) rfl) rfl (c_sub W (hA.mono (by decide)) hf hbc hci)) ob_add) ?_
    intro h2 t2 k2 F2
    have hl2 := isList_ks k2.ks hl1
    have W2 := W.mono (hb.tr F2.keep)
    refine ex_assign (base := h2) fe Kp.rf F2 (kdl he (.inl rfl)) rfl (flat_vi _).sq
      (PE.item_l (R := vi r0) (Ps := (done ++ r0 :: todo').map vi) (PE.known (PE.name ok rfl rfl) ⟨r, us', rfl, hl2, all2_vi hx'⟩) (PE.name ok rfl rfl) (by omega) (by omega) (by simp [← e1]) (by intro _ _; rfl)) ?_
    intro h3 t3 k3 F3
    have hl3 := isList_ks k3.ks hl2
    refine ex_assign (base := base) fe (hb.tr F3.keep) F3 (kdl he (.inl rfl)) rfl (flat_vi _).sq
      (PE.bin (PE.bcall he ok W.B W.nmin rfl rfl (by decide) rfl (do_min hA.h) (PA.cons (PE.name ok rfl rfl) (PA.cons (PE.name ok rfl rfl) PA.nil rfl) rfl) rfl) (PE.globi he ok W.B W.mc rfl rfl) ob_add) ?_
    intro h4 t4 k4 F4
    have hl4 := isList_ks k4.ks hl3
    refine ex_assign (base := base) fe (hb.tr F4.keep) F4 (kdl he (.inl rfl)) rfl (flat_vi _).sq
      (PE.bcall he ok W.B W.nmin rfl rfl (by decide) rfl (do_min hA.h) (PA.cons (PE.name ok rfl rfl) (PA.cons (PE.name ok rfl rfl) PA.nil rfl) rfl) rfl) ?_
    intro h5 t5 k5 F5
    have hl5 := isList_ks k5.ks hl4
    have hul : us'.length = a.length := by
      have := hx'.length
      simp at this e2
      omega
    refine ex_set (base := base) fe (hb.tr F5.keep) F5 (flatG ?_) rfl (flat_vi _) (PE.name ok rfl rfl) (PE.name ok rfl rfl) (PE.name ok rfl rfl) hl5 hr (by omega) (by omega) (by omega) ?_
    · intro p hp
      simp only [List.mem_cons, List.not_mem_nil, or_false] at hp
      rcases hp with rfl | rfl | rfl | rfl | rfl | rfl | rfl | rfl | rfl | rfl | rfl | rfl | rfl <;> first | exact flat_vi _ | exact flat_vs _ | exact flat_vr _
    intro v6 h6 t6 k6 p6 hl6 F6
    have hx6 := all2_set (all2_vi (h' := h6) hx') p6 i
    have kx6 : KX (r :: fa env) s'.heap h6 := by
      refine (k1.kx.tr (k2.kx.tr (k3.kx.tr (k4.kx.tr k5.kx)))).mono (fun p hp => List.mem_cons_of_mem _ hp) |>.tr (k6.mono fun p hp => ?_)
      simp at hp; subst hp; exact List.mem_cons_self
    have hset : (done ++ r0 :: todo').set i (min (min res r0 + 2) (d + sc bc a[i])) = (done ++ [min (min res r0 + 2) (d + sc bc a[i])]) ++ todo' := by
      subst e1; simp
    rw [Int.toNat_natCast] at hl6
    rw [hset] at hx6
    have fin : ∀ (mn' : Int) (s7 : Shared), mn' = (if min (min res r0 + 2) (d + sc bc a[i]) < mn then min (min res r0 + 2) (d + sc bc a[i]) else mn) → s7.heap.IsList r (us'.set i v6).toArray →
        Fs s₀ env [("minimum", vi mn'), ("result", vi (min (min res r0 + 2) (d + sc bc a[i]))), ("distance", vi r0), ("bchar", vs (S [bc])), ("a", vs (S a)), ("b", vs (S b)), ("max_cost", vi m), ("row", vr r)] s7 → KX (r :: fa env) s'.heap s7.heap →
        (i + 1 ≤ a.length ∧ ∃ (d res mn : Int) (done todo : List Int) (us' : List Value), done.length = i + 1 ∧ todo.length = a.length - (i + 1) ∧
      inner bc a row d0 d0 big = (done ++ (inner bc (a.drop (i + 1)) todo d res mn).1, (inner bc (a.drop (i + 1)) todo d res mn).2.1, (inner bc (a.drop (i + 1)) todo d res mn).2.2) ∧
      s7.heap.IsList r us'.toArray ∧ All2 s7.heap us' ((done ++ todo).map vi) ∧
      Fs s₀ env [("minimum", vi mn), ("result", vi res), ("distance", vi d), ("bchar", vs (S [bc])), ("a", vs (S a)), ("b", vs (S b)), ("max_cost", vi m), ("row", vr r)] s7) ∧ KX (r :: fa env) s'.heap s7.heap ∧ (∃ h tk, s7 = { s₀ with heap := h, toks := tk }) := by
      intro mn' s7 hmn hl7 F7 kx7
      refine ⟨⟨hlt, r0, _, mn', done ++ [min (min res r0 + 2) (d + sc bc a[i])], todo', us'.set i v6, by simp [e1], by simp at e2; omega, ?_, hl7, all2_vi hx6, F7⟩, kx7, F7.same⟩
      rw [e3, hmn]
      simp
    refine ex_if1 (base := base) fe (hb.tr F6.keep) F6 (PT.cmp (PE.name ok rfl rfl) (PE.name ok rfl rfl) oc_lt rfl) ?_ ?_
    · intro hc h7 t7 k7 F7
      have hc' : min (min res r0 + 2) (d + sc bc a[i]) < mn := by simpa using hc
      refine ex_assign (base := base) fe (hb.tr F7.keep) F7 (kdl he (.inl rfl)) rfl (flat_vi _).sq (PE.name ok rfl rfl) ?_
      intro h8 t8 k8 F8
      refine ex_nil (ex_nil (fin _ _ (by rw [if_pos hc']) (isList_ks (k7.ks.tr k8.ks) hl6) (F8.sl ⟨rfl, rfl, rfl, rfl, rfl, rfl, rfl, rfl, trivial⟩) (kx6.tr (k7.kx.tr (k8.kx.mono fun p hp => List.mem_cons_of_mem _ hp)))))
    · intro hc h7 t7 k7 F7
      have hc' : ¬ min (min res r0 + 2) (d + sc bc a[i]) < mn := by simpa using hc
      exact ex_nil (fin _ _ (by rw [if_neg hc']) (isList_ks k7.ks hl6) (F7.sl ⟨rfl, rfl, rfl, rfl, rfl, rfl, rfl, rfl, trivial⟩) (kx6.tr k7.kx))
  · rintro s' ⟨hi, d, res, mn, done, todo, us', e1, e2, e3, hl', hx', F'⟩ kx hsame
    have hn : todo = [] := by simpa [rgi] using e2
    subst hn
    have hd : List.drop ((rgi 0 1 a.length).map vi).length a = [] := by simp [rgi]
    rw [hd] at e3
    have ez : inner bc [] ([] : List Int) d res mn = ([], res, mn) := rfl
    rw [ez] at e3
    refine k s' us' ?_ hl' ?_ kx
    · rw [e3]; exact F'.sl ⟨rfl, rfl, rfl, rfl, rfl, rfl, trivial⟩
    · rw [e3]; exact hx'
end
end Mine
namespace Mine
open PySem PyProof.Rows PySem.Calls

theorem inner_len (bc : Nat) : ∀ (a : List Nat) (row : List Int) (d res mn : Int), (inner bc a row d res mn).1.length = row.length
  | [], row, d, res, mn => rfl
  | _ :: _, [], _, _, _ => rfl
  | c :: a, r :: row, d, res, mn => by simp [inner, inner_len bc a row]
theorem mul2 {a : Int} : IntMulOk a 2 := IntMulOk.of_right (by decide)
theorem mul2' {a : Int} : IntMulOk 2 a := IntMulOk.of_left (by decide)

section
variable {prog : Program} {w : World} {base : Heap} {A : Around} {mg mb : Str → Option Value} {E : Value → Shared → Prop} {s₀ s : Shared} {env : Env}

/-- the address of a new list -/
theorem Fs.pinl {G : List (Str × VP)} (F : Fs s₀ env G s) {x : Str} {h₀ : Heap} {Ps : List VP} (hx : G.lookup x = some (vln h₀ Ps)) :
    ∃ r us, h₀.get? r = none ∧ s.heap.IsList r us.toArray ∧ All2 s.heap us Ps ∧ Fs s₀ env ((x, vr r) :: G) s := by
  obtain ⟨m, cm, ic, hv⟩ := F.ic
  obtain ⟨v, hsl, r, us, rfl, hr, hl, ha⟩ := hv x _ hx
  refine ⟨r, us, hr, hl, ha, ⟨⟨m, cm, ic, fun y P e => ?_⟩, fun y P e => ?_⟩⟩
  · rcases lookup_cons_cases e with ⟨rfl, rfl⟩ | ⟨_, e⟩
    · exact ⟨_, hsl, rfl⟩
    · exact hv y P e
  · rcases lookup_cons_cases e with ⟨rfl, rfl⟩ | ⟨_, e⟩
    · exact (flat_vr r).sq
    · exact F.sq y P e

/-- the outer loop and the end -/
theorem lev_out (W : W0 mg mb base) (hA : OkA A 989) (he : env.scope = fscope 5) (fe : FEnv env) {a : List Nat} {m : Int} {b : List Nat} {r : Addr} {us : List Value} {row : List Int}
    (ha : ∀ c ∈ a, c < 128) (hbs : ∀ c ∈ b, c < 128) (hal : a.length ≤ 40) (hbl : b.length ≤ 40) (hrow : row.length = a.length) (hb : Kp base s₀.heap) (hr : s₀.heap.get? r = none)
    (F : Fs s₀ env [("result", vi 0), ("a", vs (S a)), ("b", vs (S b)), ("max_cost", vi m), ("row", vr r)] s)
    (hl : s.heap.IsList r us.toArray) (hx : All2 s.heap us (row.map vi)) :
    wpAny (model prog w) A (execs ((fbody 5).drop 15) env) (Ret s₀ (vi (outer a m b 0 row 0))) E s := by
  have ok := fe.toEnvOk
  have hrf : r ∉ fa env := F.not_fa hl
  refine ex_for (base := base) fe (hb.tr F.keep) F (r :: fa env) ((rgi 0 1 b.length).map vi)
    (PE.tcall he ok W.B W.nrange rfl rfl (by decide) rfl do_range1 (PA.cons (PE.len_s he ok W.B W.nlen (by omega) rfl (PE.name ok rfl rfl) rfl) PA.nil rfl) rfl)
    (fun h' v _ hv => it_range hA.h hv (small01 (by omega)) (rsize01 _)) ?_ ?_ ?_
    (fun i s' => i ≤ b.length ∧ ∃ (res : Int) (rw' : List Int) (us' : List Value), rw'.length = a.length ∧ outer a m b 0 row 0 = outer a m (b.drop i) i rw' res ∧
      s'.heap.IsList r us'.toArray ∧ All2 s'.heap us' (rw'.map vi) ∧
      Fs s₀ env [("result", vi res), ("a", vs (S a)), ("b", vs (S b)), ("max_cost", vi m), ("row", vr r)] s')
    ?_ ?_ ?_ ?_ (by intro x; rfl)
  · intro R hR
    obtain ⟨i, _, rfl⟩ := List.mem_map.mp hR
    exact flat_vi i
  · intro b hbm
    rcases List.mem_cons.mp hbm with rfl | hbm
    · obtain ⟨o, h1, _⟩ := hl; exact ⟨o, h1⟩
    · obtain ⟨o, h1, _⟩ := F.fa_some b hbm; exact ⟨o, h1⟩
  · intro b hbm
    rcases List.mem_cons.mp hbm with rfl | hbm
    · exact hr
    · exact F.fa_fresh b hbm
  · intro h' tk kp F'
    exact ⟨Nat.zero_le _, 0, row, us, hrow, by simp, isList_ks kp.ks hl, hx.up kp, F'⟩
  · rintro i s' h' tk ⟨hi, res, rw', us', e1, e2, hl', hx', F'⟩ kn k0
    exact ⟨hi, res, rw', us', e1, e2, isList_ks kn.ks hl', all2_vi hx', F'.kn kn k0⟩
  · rintro i R s' v E' hR hRv ⟨hi, res, rw', us', e1, e2, hl', hx', F'⟩ kx hsame
    obtain ⟨hlt, rfl⟩ := rgi01_get hR
    have hci : b[i] < 128 := hbs _ (List.getElem_mem hlt)
    rw [List.drop_eq_getElem_cons hlt] at e2
    have e3 : outer a m b 0 row 0 = if m < (inner b[i] a rw' (i * 2) (i * 2) big).2.2 then m + 1 else outer a m (b.drop (i + 1)) ((i : Int) + 1) (inner b[i] a rw' (i * 2) (i * 2) big).1 (inner b[i] a rw' (i * 2) (i * 2) big).2.1 := e2
    refine store_ fe F' (kdl he (.inl rfl)) hRv (flat_vi _).sq fun h1 t1 k1 F1 => ?_
    refine ex_assign (base := base) fe (hb.tr F1.keep) F1 (kdl he (.inl rfl)) rfl (flat_vs _).sq
      (PE.item_s (l := b) (i := (i : Int)) (c := b[i]) (PE.name ok rfl rfl) (PE.name ok rfl rfl) (by omega) (by rw [seqIx hlt]; simp) (by intro _ _; rfl)) ?_
    intro h2 t2 k2 F2
    refine ex_assign2 (base := base) fe (hb.tr F2.keep) F2 (kdl he (.inl rfl)) (kdl he (.inl rfl)) (flat_vi _).sq (PE.bin (PE.name ok rfl rfl) (PE.globi he ok W.B W.mc rfl rfl) (ob_mul mul2)) ?_
    intro h3 t3 k3 F3
    refine ex_assign (base := base) fe (hb.tr F3.keep) F3 (kdl he (.inl rfl)) rfl (flat_vi _).sq PE.cint ?_
    intro h4 t4 k4 F4
    have hl4 := isList_ks (k1.ks.tr (k2.ks.tr (k3.ks.tr k4.ks))) hl'
    have kx4 : KX (r :: fa env) s'.heap h4 := (k1.kx.tr (k2.kx.tr (k3.kx.tr k4.kx))).mono fun p hp => List.mem_cons_of_mem _ hp
    refine lev_in W hA he fe (row := rw') (bi := (i : Int)) (b := b) (m := m) ha hci hal e1 hb hr (F4.sl ⟨rfl, rfl, rfl, rfl, rfl, rfl, rfl, rfl, rfl, trivial⟩) hl4 (all2_vi hx') ?_
    intro s5 us5 F5 hl5 hx5 kx5
    refine ex_if1 (base := base) fe (hb.tr F5.keep) F5 (PT.cmp (PE.name ok rfl rfl) (PE.name ok rfl rfl) oc_gt rfl) ?_ ?_
    · intro hc h6 t6 k6 F6
      have hc' : m < (inner b[i] a rw' (i * 2) (i * 2) big).2.2 := by simpa using hc
      rw [if_pos hc'] at e3
      refine ex_ret (base := base) fe (hb.tr F6.keep) F6 (PE.bin (PE.name ok rfl rfl) PE.cint ob_add) fun v7 h7 t7 k7 p7 => ?_
      have := F6.ret (tk := t7) (R := vi (outer a m b 0 row 0)) k7 (by rw [e3]; exact p7)
      exact this
    · intro hc h6 t6 k6 F6
      have hc' : ¬ m < (inner b[i] a rw' (i * 2) (i * 2) big).2.2 := by simpa using hc
      rw [if_neg hc'] at e3
      exact ex_nil ⟨⟨hlt, _, _, us5, by rw [inner_len]; exact e1, by rw [e3]; simp, isList_ks k6.ks hl5, all2_vi hx5, F6.sl ⟨rfl, rfl, rfl, rfl, rfl, trivial⟩⟩, kx4.tr (kx5.tr k6.kx), F6.same⟩
  · rintro s' ⟨hi, res, rw', us', e1, e2, hl', hx', F'⟩ kx hsame
    have hd : List.drop ((rgi 0 1 b.length).map vi).length b = [] := by simp [rgi]
    rw [hd] at e2
    have ez : outer a m b 0 row 0 = res := e2
    refine ex_ret (base := base) fe (hb.tr F'.keep) F' (PE.name ok rfl rfl) fun v7 h7 t7 k7 p7 => F'.ret k7 ?_
    rw [ez]; exact p7

theorem rsize2 (n : Nat) : Builtin.Range.rangeSize 2 (2 * ((n : Int) + 1)) 2 = (n : Nat) := by
  unfold Builtin.Range.rangeSize
  simp
  omega
theorem small2 {n : Nat} (h : n ≤ 1000000) : Builtin.Range.small 2 (2 * ((n : Int) + 1)) 2 = true := by
  unfold Builtin.Range.small
  rw [rsize2]
  simp [Builtin.Range.rangeFitsLong]
  omega
theorem pylong2 {a : Int} : Builtin.divisionGoesByPylong a 2 = false := by
  unfold Builtin.divisionGoesByPylong
  have : (decide ((if ((2 : Int) == 0) = true then 0 else (2 : Int).natAbs.log2 / 30 + 1) > 300)) = false := by decide
  simp only [this, Bool.false_and]

/-- from the comparison of lengths on -/
theorem lev_core (W : W0 mg mb base) (hA : OkA A 989) (he : env.scope = fscope 5) (fe : FEnv env) {a : List Nat} {m : Int} {b : List Nat}
    (ha : ∀ c ∈ a, c < 128) (hbs : ∀ c ∈ b, c < 128) (hal : a.length ≤ 40) (hbl : b.length ≤ 40) (hb : Kp base s₀.heap)
    (F : Fs s₀ env [("a", vs (S a)), ("b", vs (S b)), ("max_cost", vi m)] s) :
    wpAny (model prog w) A (execs ((fbody 5).drop 12) env) (Ret s₀ (vi (core a b m))) E s := by
  have ok := fe.toEnvOk
  refine ex_if1 (base := base) fe (hb.tr F.keep) F (PT.cmp (PE.bin (PE.bin (PE.len_s he ok W.B W.nlen (by omega) rfl (PE.name ok rfl rfl) rfl) (PE.len_s he ok W.B W.nlen (by omega) rfl (PE.name ok rfl rfl) rfl) ob_sub)
    (PE.globi he ok W.B W.mc rfl rfl) (ob_mul mul2)) (PE.name ok rfl rfl) oc_gt rfl) ?_ ?_
  · intro hc h1 t1 k1 F1
    have hc' : m < ((b.length : Int) - a.length) * 2 := by simpa using hc
    refine ex_ret (base := base) fe (hb.tr F1.keep) F1 (PE.bin (PE.name ok rfl rfl) PE.cint ob_add) fun v7 h7 t7 k7 p7 => F1.ret k7 ?_
    unfold core; rw [if_pos hc']; exact p7
  · intro hc h1 t1 k1 F1
    have hc' : ¬ m < ((b.length : Int) - a.length) * 2 := by simpa using hc
    refine ex_assign (base := s₀.heap) fe F1.keep F1 (kdl he (.inl rfl)) rfl (P := vln s₀.heap ((rgi 2 2 a.length).map vi)) (sq_vln fun P hP => by obtain ⟨i, _, rfl⟩ := List.mem_map.mp hP; exact (flat_vi i).sq)
      (PE.tcall he ok (W.B.mono hb) W.nlist rfl rfl (by decide) rfl (do_list_range hA.h (small2 (by omega)) (rsize2 _) (by omega)) (PA.cons
        (PE.tcall he ok (W.B.mono hb) W.nrange rfl rfl (by decide) rfl (do_range3 (by decide) pylong2) (PA.cons (PE.globi he ok (W.B.mono hb) W.mc rfl rfl) (PA.cons
          (PE.bin (PE.globi he ok (W.B.mono hb) W.mc rfl rfl) (PE.bin (PE.len_s he ok (W.B.mono hb) W.nlen (by omega) rfl (PE.name ok rfl rfl) rfl) PE.cint ob_add) (ob_mul mul2'))
          (PA.cons (PE.globi he ok (W.B.mono hb) W.mc rfl rfl) PA.nil rfl) rfl) rfl) rfl) PA.nil rfl) rfl) ?_
    intro h2 t2 k2 F2
    refine ex_assign (base := base) fe (hb.tr F2.keep) F2 (kdl he (.inl rfl)) rfl (flat_vi _).sq PE.cint ?_
    intro h3 t3 k3 F3
    obtain ⟨r, us, hr, hl, hx, F4⟩ := F3.pinl (x := "row") rfl
    have := lev_out (prog := prog) (w := w) (E := E) W hA he fe ha hbs hal hbl (row := rgi 2 2 a.length) (by simp [rgi]) hb hr (F4.sl ⟨rfl, rfl, rfl, rfl, rfl, trivial⟩) hl hx
    unfold core; rw [if_neg hc']
    exact this
end
end Mine
namespace Mine
open PySem PyProof.Rows PySem.Calls

section
variable {prog : Program} {w : World} {base : Heap} {A : Around} {mg mb : Str → Option Value} {E : Value → Shared → Prop} {s₀ s : Shared} {env : Env} {G : List (Str × VP)}

/-- from the two stripped words on -/
theorem lev_mid (W : W0 mg mb base) (hA : OkA A 989) (he : env.scope = fscope 5) (fe : FEnv env) {a : List Nat} {m : Int} {b : List Nat}
    (ha : ∀ c ∈ a, c < 128) (hbs : ∀ c ∈ b, c < 128) (hal : a.length ≤ 40) (hbl : b.length ≤ 40) (hb : Kp base s₀.heap)
    (F : Fs s₀ env [("a", vs (S a)), ("b", vs (S b)), ("max_cost", vi m)] s) :
    wpAny (model prog w) A (execs ((fbody 5).drop 9) env) (Ret s₀ (vi (if a = [] ∨ b = [] then 2 * ((a.length : Int) + b.length) else if b.length < a.length then core b a m else core a b m))) E s := by
  have ok := fe.toEnvOk
  refine ex_if1 (base := base) fe (hb.tr F.keep) F (PT.or (PT.not (PT.plain (PE.name ok rfl rfl) (tr_s (by omega)) rfl)) (fun _ => PT.or (PT.not (PT.plain (PE.name ok rfl rfl) (tr_s (by omega)) rfl)) (fun _ => PT.or_nil))) ?_ ?_
  · intro hc h1 t1 k1 F1
    have hc' : a = [] ∨ b = [] := by simpa using hc
    refine ex_ret (base := base) fe (hb.tr F1.keep) F1 (PE.bin (PE.globi he ok W.B W.mc rfl rfl) (PE.bin (PE.len_s he ok W.B W.nlen (by omega) rfl (PE.name ok rfl rfl) rfl) (PE.len_s he ok W.B W.nlen (by omega) rfl (PE.name ok rfl rfl) rfl) ob_add) (ob_mul mul2'))
      fun v7 h7 t7 k7 p7 => F1.ret k7 ?_
    rw [if_pos hc']; exact p7
  intro hc h1 t1 k1 F1
  have hc' : ¬ (a = [] ∨ b = []) := by simpa using hc
  rw [if_neg hc']
  refine ex_if1 (base := base) fe (hb.tr F1.keep) F1 (PT.or (PT.cmp (PE.len_s he ok W.B W.nlen (by omega) rfl (PE.name ok rfl rfl) rfl) (PE.globi he ok W.B W.ms rfl rfl) oc_gt rfl)
    (fun _ => PT.or (PT.cmp (PE.len_s he ok W.B W.nlen (by omega) rfl (PE.name ok rfl rfl) rfl) (PE.globi he ok W.B W.ms rfl rfl) oc_gt rfl) (fun _ => PT.or_nil))) ?_ ?_
  · intro hc; simp at hc; omega
  intro _ h2 t2 k2 F2
  refine ex_if1 (base := base) fe (hb.tr F2.keep) F2 (PT.cmp (PE.len_s he ok W.B W.nlen (by omega) rfl (PE.name ok rfl rfl) rfl) (PE.len_s he ok W.B W.nlen (by omega) rfl (PE.name ok rfl rfl) rfl) oc_lt rfl) ?_ ?_
  · intro hc h3 t3 k3 F3
    have hc2 : b.length < a.length := by simp at hc; omega
    rw [if_pos hc2]
    refine ex_swap2 (base := base) hA.h fe (hb.tr F3.keep) F3 (kdl he (.inl rfl)) (kdl he (.inl rfl)) (flat_vs _).sq (flat_vs _).sq ?_ (PE.tup (PA.cons (PE.name ok rfl rfl) (PA.cons (PE.name ok rfl rfl) PA.nil rfl) rfl) (by show 2 ≤ _; decide)) ?_
    · cases env; dsimp only at he; subst he; rfl
    intro h4 t4 k4 F4
    exact ex_nil (lev_core W hA he fe hbs ha hbl hal hb (F4.sl ⟨rfl, rfl, rfl, trivial⟩))
  · intro hc h3 t3 k3 F3
    have hc2 : ¬ b.length < a.length := by simp at hc; omega
    rw [if_neg hc2]
    exact lev_core W hA he fe ha hbs hal hbl hb F3
end
end Mine
namespace Mine
open PySem PyProof.Rows PySem.Calls

theorem post_cut (l : List Nat) {q : Nat} (h : q ≤ l.length) : cut l none (if q = 0 then none else some (-(q : Int))) = (l.reverse.drop q).reverse := by
  by_cases h0 : q = 0
  · subst h0; simp [cut_all]
  · rw [if_neg h0]; exact cut_back l h (by omega)
theorem seqIxN {n q : Nat} (h : q < n) : seqIndex? (-(q : Int) - 1) n = some (n - 1 - q) := by
  unfold seqIndex?
  have h1 : (-(q : Int) - 1 < 0) := by omega
  simp only [h1, if_true]
  have h2 : (0 ≤ -(q : Int) - 1 + (n : Int) ∧ -(q : Int) - 1 + (n : Int) < n) := by omega
  have h3 : (-(q : Int) - 1 + (n : Int)).toNat = n - 1 - q := by omega
  simp [h2, h3]
theorem rev_get (l : List Nat) {q : Nat} (h : q < l.length) : l[l.length - 1 - q]? = l.reverse[q]? := by
  rw [List.getElem?_reverse h]

section
variable {prog : Program} {w : World} {base : Heap} {A : Around} {mg mb : Str → Option Value} {E : Value → Shared → Prop} {s₀ s : Shared} {env : Env} {G : List (Str × VP)}

theorem PT.congr {e : Expr} {b b' : Bool} (h : PT prog w base A env G e b) (hb : b = b') : PT prog w base A env G e b' := hb ▸ h

theorem po_post {x : Str} {p1 p2 p3 : Pos} {kk q : Nat} (ok : EnvOk env) (hx : G.lookup x = some (vi (-(q : Int)))) (hd : (x == ("__debug__" : Str)) = false) :
    PO prog w base A env G (some (.BoolOp .Or [.Name x p1, .Constant .none kk p2] p3)) (if q = 0 then none else some (-(q : Int))) := by
  by_cases h0 : q = 0
  · subst h0
    exact PO.somen (PE.orElse (PE.name ok hx hd) tr_i (by intro h; simp at h) (fun _ => PE.cnone))
  · rw [if_neg h0]
    exact PO.some (PE.orElse (PE.name ok hx hd) tr_i (fun _ _ _ p => p) (by intro h; simp at h; omega))

/-- from the second strip on -/
theorem lev_post (W : W0 mg mb base) (hA : OkA A 989) (he : env.scope = fscope 5) (fe : FEnv env) {a : List Nat} {m : Int} {b : List Nat}
    (ha : ∀ c ∈ a, c < 128) (hbs : ∀ c ∈ b, c < 128) (hal : a.length ≤ 40) (hbl : b.length ≤ 40) (hb : Kp base s₀.heap)
    (F : Fs s₀ env [("a", vs (S a)), ("b", vs (S b)), ("max_cost", vi m)] s) {R : VP}
    (hR : R = vi (if (stripP a.reverse b.reverse).1.reverse = [] ∨ (stripP a.reverse b.reverse).2.reverse = [] then 2 * (((stripP a.reverse b.reverse).1.reverse.length : Int) + (stripP a.reverse b.reverse).2.reverse.length)
      else if (stripP a.reverse b.reverse).2.reverse.length < (stripP a.reverse b.reverse).1.reverse.length then core (stripP a.reverse b.reverse).2.reverse (stripP a.reverse b.reverse).1.reverse m
      else core (stripP a.reverse b.reverse).1.reverse (stripP a.reverse b.reverse).2.reverse m)) :
    wpAny (model prog w) A (execs ((fbody 5).drop 5) env) (Ret s₀ R) E s := by
  have ok := fe.toEnvOk
  refine ex_assign (base := base) fe (hb.tr F.keep) F (kdl he (.inl rfl)) rfl (flat_vi _).sq PE.cint ?_
  intro h1 t1 k1 F1
  refine ex_while (base := base) fe hb (fun n s => ∃ q : Nat, n = a.length - q ∧ q ≤ a.length ∧ q ≤ b.length ∧ stripP a.reverse b.reverse = stripP (a.reverse.drop q) (b.reverse.drop q) ∧
    Fs s₀ env [("post", vi (-(q : Int))), ("a", vs (S a)), ("b", vs (S b)), ("max_cost", vi m)] s) a.length ⟨0, rfl, Nat.zero_le _, Nat.zero_le _, rfl, F1⟩ ?_
  rintro n s2 E' ⟨q, rfl, hqa, hqb, hst, F2⟩
  refine ⟨_, decide (q < a.length ∧ q < b.length ∧ a.reverse[q]? = b.reverse[q]?), F2, ?_, ?_, ?_⟩
  · have hz : ∀ l : List Nat, l.length ≤ 40 → l.length ≤ sizeLine := fun l h => Nat.le_trans h (by decide)
    have hc : ∀ l : List Nat, l.length ≤ 40 → q ≤ l.length → (cut l none (if q = 0 then none else some (-(q : Int)))).length < 2 ^ 62 := fun l h1 h2 => by rw [post_cut l h2]; simp; omega
    have hne : ∀ l : List Nat, q ≤ l.length → (!(cut l none (if q = 0 then none else some (-(q : Int)))).isEmpty) = decide (q < l.length) := fun l h2 => by
      rw [post_cut l h2]
      by_cases h : q < l.length
      · rw [decide_eq_true h]
        have : (l.reverse.drop q).reverse ≠ [] := by
          intro e
          have := congrArg List.length e
          simp at this; omega
        simpa using this
      · rw [decide_eq_false h]
        have : (l.reverse.drop q).reverse = [] := by simp; omega
        rw [this]; rfl
    by_cases c1 : q < a.length
    · by_cases c2 : q < b.length
      · obtain ⟨x1, g1⟩ : ∃ x, a.reverse[q]? = some x := ⟨_, List.getElem?_eq_getElem (by simpa using c1)⟩
        obtain ⟨x2, g2⟩ : ∃ x, b.reverse[q]? = some x := ⟨_, List.getElem?_eq_getElem (by simpa using c2)⟩
        refine PT.congr (PT.and (PT.plain (PE.sl (hz a hal) (PE.name ok rfl rfl) PO.none (po_post ok rfl rfl) (by intro _ _; rfl)) (tr_s (hc a hal hqa)) rfl) fun _ =>
          PT.and (PT.plain (PE.sl (hz b hbl) (PE.name ok rfl rfl) PO.none (po_post ok rfl rfl) (by intro _ _; rfl)) (tr_s (hc b hbl hqb)) rfl) fun _ =>
          PT.and (PT.cmp (PE.item_s (l := a) (i := -(q : Int) - 1) (c := x1) (PE.name ok rfl rfl) (PE.bin (PE.name ok rfl rfl) PE.cint ob_sub) (by omega) (by rw [seqIxN c1]; rw [Option.bind_some, rev_get a c1]; exact g1) (by intro _ _; rfl))
            (PE.item_s (l := b) (i := -(q : Int) - 1) (c := x2) (PE.name ok rfl rfl) (PE.bin (PE.name ok rfl rfl) PE.cint ob_sub) (by omega) (by rw [seqIxN c2]; rw [Option.bind_some, rev_get b c2]; exact g2) (by intro _ _; rfl)) oc_eqs rfl) fun _ => PT.and_nil) ?_
        rw [hne a hqa, hne b hqb, g1, g2]
        by_cases hx : x1 = x2 <;> simp [c1, c2, hx]
      · refine PT.congr (PT.and (c := false) (PT.plain (PE.sl (hz a hal) (PE.name ok rfl rfl) PO.none (po_post ok rfl rfl) (by intro _ _; rfl)) (tr_s (hc a hal hqa)) rfl) fun _ =>
          PT.congr (PT.and (c := false) (PT.plain (PE.sl (hz b hbl) (PE.name ok rfl rfl) PO.none (po_post ok rfl rfl) (by intro _ _; rfl)) (tr_s (hc b hbl hqb)) rfl) fun h => absurd h (by rw [hne b hqb]; simpa using c2)) (Bool.and_false _)) ?_
        simp [c2]
    · refine PT.congr (PT.and (c := false) (PT.plain (PE.sl (hz a hal) (PE.name ok rfl rfl) PO.none (po_post ok rfl rfl) (by intro _ _; rfl)) (tr_s (hc a hal hqa)) rfl) fun h => absurd h (by rw [hne a hqa]; simpa using c1)) ?_
      simp [c1]
  · intro hc h3 t3 k3 F3
    obtain ⟨c1, c2, c3⟩ := of_decide_eq_true hc
    refine ex_aug (base := base) fe (hb.tr F3.keep) F3 (kdl he (.inl rfl)) (flat_vi _).sq rfl PE.cint oi_sub ?_
    intro h4 t4 k4 F4
    refine ex_nil ⟨rfl, a.length - (q + 1), by omega, q + 1, rfl, by omega, by omega, hst.trans (stripP_step (by simpa using c1) (by simpa using c2) c3), ?_⟩
    have e : -(q : Int) - 1 = -((q + 1 : Nat) : Int) := by omega
    rw [e] at F4
    exact F4.sl ⟨rfl, rfl, rfl, rfl, trivial⟩
  · intro hc h3 t3 k3 F3
    have hc' := of_decide_eq_false hc
    have hst' := hst.trans (stripP_stop (by
      simp only [List.length_reverse]
      by_cases c1 : q < a.length
      · by_cases c2 : q < b.length
        · right; right; intro e; exact hc' ⟨c1, c2, e⟩
        · right; left; omega
      · left; omega))
    have hz : ∀ l : List Nat, l.length ≤ 40 → l.length ≤ sizeLine := fun l h => Nat.le_trans h (by decide)
    have eA : cut a none (if q = 0 then none else some (-(q : Int))) = (stripP a.reverse b.reverse).1.reverse := by rw [post_cut a hqa, hst']
    have eB : cut b none (if q = 0 then none else some (-(q : Int))) = (stripP a.reverse b.reverse).2.reverse := by rw [post_cut b hqb, hst']
    have pA : ∀ (G : List (Str × VP)) p1 p2 p3 p4 p5 p6 (k : Nat), G.lookup ("a" : Str) = some (vs (S a)) → G.lookup ("post" : Str) = some (vi (-(q : Int))) → PE prog w base A env G (.Subscript (.Name "a" p1) (.Slice none (some (.BoolOp .Or [.Name "post" p2, .Constant .none k p3] p4)) none p5) p6) (vs (S (stripP a.reverse b.reverse).1.reverse)) := by
      intro G p1 p2 p3 p4 p5 p6 k g1 g2
      rw [← eA]; exact PE.sl (hz a hal) (PE.name ok g1 rfl) PO.none (po_post ok g2 rfl) (by intro _ _; rfl)
    have pB : ∀ (G : List (Str × VP)) p1 p2 p3 p4 p5 p6 (k : Nat), G.lookup ("b" : Str) = some (vs (S b)) → G.lookup ("post" : Str) = some (vi (-(q : Int))) → PE prog w base A env G (.Subscript (.Name "b" p1) (.Slice none (some (.BoolOp .Or [.Name "post" p2, .Constant .none k p3] p4)) none p5) p6) (vs (S (stripP a.reverse b.reverse).2.reverse)) := by
      intro G p1 p2 p3 p4 p5 p6 k g1 g2
      rw [← eB]; exact PE.sl (hz b hbl) (PE.name ok g1 rfl) PO.none (po_post ok g2 rfl) (by intro _ _; rfl)
    refine ex_assign (base := base) fe (hb.tr F3.keep) F3 (kdl he (.inl rfl)) rfl (flat_vs _).sq (pA _ _ _ _ _ _ _ _ rfl rfl) ?_
    intro h4 t4 k4 F4
    refine ex_assign (base := base) fe (hb.tr F4.keep) F4 (kdl he (.inl rfl)) rfl (flat_vs _).sq (pB _ _ _ _ _ _ _ _ rfl rfl) ?_
    intro h5 t5 k5 F5
    have m1 := stripP_mem a.reverse b.reverse
    have l1 := stripP_le a.reverse b.reverse
    simp only [List.length_reverse] at l1
    rw [hR]
    exact lev_mid W hA he fe (fun c h => ha c (by simpa using m1.1 c (by simpa using h))) (fun c h => hbs c (by simpa using m1.2 c (by simpa using h))) (by simp; omega) (by simp; omega) hb (F5.sl ⟨rfl, rfl, rfl, trivial⟩)
end
end Mine
namespace Mine
open PySem PyProof.Rows PySem.Calls
section
variable {prog : Program} {w : World} {base : Heap} {A : Around} {mg mb : Str → Option Value} {E : Value → Shared → Prop} {s₀ s : Shared} {env : Env} {G : List (Str × VP)}

theorem lev_body (W : W0 mg mb base) (hA : OkA A 989) (he : env.scope = fscope 5) (fe : FEnv env) {a : List Nat} {m : Int} {b : List Nat}
    (ha : ∀ c ∈ a, c < 128) (hbs : ∀ c ∈ b, c < 128) (hal : a.length ≤ 40) (hbl : b.length ≤ 40) (hb : Kp base s₀.heap)
    (F : Fs s₀ env [("a", vs (S a)), ("b", vs (S b)), ("max_cost", vi m)] s) :
    wpAny (model prog w) A (execs (fbody 5) env) (Ret s₀ (vi (lev a b m))) E s := by
  have ok := fe.toEnvOk
  have hz : ∀ l : List Nat, l.length ≤ 40 → l.length ≤ sizeLine := fun l h => Nat.le_trans h (by decide)
  refine ex_if1 (base := base) fe (hb.tr F.keep) F (PT.cmp (PE.name ok rfl rfl) (PE.name ok rfl rfl) oc_eqs rfl) ?_ ?_
  · intro hc h1 t1 k1 F1
    refine ex_ret (base := base) fe (hb.tr F1.keep) F1 PE.cint fun v h2 t2 k2 p => F1.ret k2 ?_
    have : a = b := by simpa using hc
    subst this
    simpa [lev] using p
  intro hc h1 t1 k1 F1
  have hab : a ≠ b := by simpa using hc
  refine ex_assign (base := base) fe (hb.tr F1.keep) F1 (kdl he (.inl rfl)) rfl (flat_vi _).sq PE.cint ?_
  intro h2 t2 k2 F2
  refine ex_while (base := base) fe hb (fun n s => ∃ q : Nat, n = a.length - q ∧ q ≤ a.length ∧ q ≤ b.length ∧ stripP a b = stripP (a.drop q) (b.drop q) ∧
    Fs s₀ env [("pre", vi (q : Int)), ("a", vs (S a)), ("b", vs (S b)), ("max_cost", vi m)] s) a.length ⟨0, rfl, Nat.zero_le _, Nat.zero_le _, rfl, F2⟩ ?_
  rintro n s3 E' ⟨q, rfl, hqa, hqb, hst, F3⟩
  refine ⟨_, decide (q < a.length ∧ q < b.length ∧ a[q]? = b[q]?), F3, ?_, ?_, ?_⟩
  · have hc : ∀ l : List Nat, l.length ≤ 40 → q ≤ l.length → (cut l (some (q : Int)) none).length < 2 ^ 62 := fun l h1 h2 => by rw [cut_from l h2]; simp; omega
    have hne : ∀ l : List Nat, q ≤ l.length → (!(cut l (some (q : Int)) none).isEmpty) = decide (q < l.length) := fun l h2 => by
      rw [cut_from l h2]
      by_cases h : q < l.length
      · rw [decide_eq_true h]
        have : l.drop q ≠ [] := by
          intro e
          have := congrArg List.length e
          simp at this; omega
        simpa using this
      · rw [decide_eq_false h]
        have : l.drop q = [] := by simp; omega
        rw [this]; rfl
    by_cases c1 : q < a.length
    · by_cases c2 : q < b.length
      · obtain ⟨x1, g1⟩ : ∃ x, a[q]? = some x := ⟨_, List.getElem?_eq_getElem c1⟩
        obtain ⟨x2, g2⟩ : ∃ x, b[q]? = some x := ⟨_, List.getElem?_eq_getElem c2⟩
        refine PT.congr (PT.and (PT.plain (PE.sl (hz a hal) (PE.name ok rfl rfl) (PO.some (PE.name ok rfl rfl)) PO.none (by intro _ _; rfl)) (tr_s (hc a hal hqa)) rfl) fun _ =>
          PT.and (PT.plain (PE.sl (hz b hbl) (PE.name ok rfl rfl) (PO.some (PE.name ok rfl rfl)) PO.none (by intro _ _; rfl)) (tr_s (hc b hbl hqb)) rfl) fun _ =>
          PT.and (PT.cmp (PE.item_s (l := a) (i := (q : Int)) (c := x1) (PE.name ok rfl rfl) (PE.name ok rfl rfl) (by omega) (by rw [seqIx c1]; exact g1) (by intro _ _; rfl))
            (PE.item_s (l := b) (i := (q : Int)) (c := x2) (PE.name ok rfl rfl) (PE.name ok rfl rfl) (by omega) (by rw [seqIx c2]; exact g2) (by intro _ _; rfl)) oc_eqs rfl) fun _ => PT.and_nil) ?_
        rw [hne a hqa, hne b hqb, g1, g2]
        by_cases hx : x1 = x2 <;> simp [c1, c2, hx]
      · refine PT.congr (PT.and (c := false) (PT.plain (PE.sl (hz a hal) (PE.name ok rfl rfl) (PO.some (PE.name ok rfl rfl)) PO.none (by intro _ _; rfl)) (tr_s (hc a hal hqa)) rfl) fun _ =>
          PT.congr (PT.and (c := false) (PT.plain (PE.sl (hz b hbl) (PE.name ok rfl rfl) (PO.some (PE.name ok rfl rfl)) PO.none (by intro _ _; rfl)) (tr_s (hc b hbl hqb)) rfl) fun h => absurd h (by rw [hne b hqb]; simpa using c2)) (Bool.and_false _)) ?_
        simp [c2]
    · refine PT.congr (PT.and (c := false) (PT.plain (PE.sl (hz a hal) (PE.name ok rfl rfl) (PO.some (PE.name ok rfl rfl)) PO.none (by intro _ _; rfl)) (tr_s (hc a hal hqa)) rfl) fun h => absurd h (by rw [hne a hqa]; simpa using c1)) ?_
      simp [c1]
  · intro hc h3 t3 k3 F3
    obtain ⟨c1, c2, c3⟩ := of_decide_eq_true hc
    refine ex_aug (base := base) fe (hb.tr F3.keep) F3 (kdl he (.inl rfl)) (flat_vi _).sq rfl PE.cint oi_add ?_
    intro h4 t4 k4 F4
    refine ex_nil ⟨rfl, a.length - (q + 1), by omega, q + 1, rfl, by omega, by omega, hst.trans (stripP_step c1 c2 c3), ?_⟩
    exact F4.sl ⟨rfl, rfl, rfl, rfl, trivial⟩
  · intro hc h3 t3 k3 F3
    have hc' := of_decide_eq_false hc
    have hst' := hst.trans (stripP_stop (by
      by_cases c1 : q < a.length
      · by_cases c2 : q < b.length
        · right; right; intro e; exact hc' ⟨c1, c2, e⟩
        · right; left; omega
      · left; omega))
    have eA : cut a (some (q : Int)) none = (stripP a b).1 := by rw [cut_from a hqa, hst']
    have eB : cut b (some (q : Int)) none = (stripP a b).2 := by rw [cut_from b hqb, hst']
    have pA : ∀ (G : List (Str × VP)) p1 p2 p5 p6, G.lookup ("a" : Str) = some (vs (S a)) → G.lookup ("pre" : Str) = some (vi (q : Int)) → PE prog w base A env G (.Subscript (.Name "a" p1) (.Slice (some (.Name "pre" p2)) none none p5) p6) (vs (S (stripP a b).1)) := by
      intro G p1 p2 p5 p6 g1 g2
      rw [← eA]; exact PE.sl (hz a hal) (PE.name ok g1 rfl) (PO.some (PE.name ok g2 rfl)) PO.none (by intro _ _; rfl)
    have pB : ∀ (G : List (Str × VP)) p1 p2 p5 p6, G.lookup ("b" : Str) = some (vs (S b)) → G.lookup ("pre" : Str) = some (vi (q : Int)) → PE prog w base A env G (.Subscript (.Name "b" p1) (.Slice (some (.Name "pre" p2)) none none p5) p6) (vs (S (stripP a b).2)) := by
      intro G p1 p2 p5 p6 g1 g2
      rw [← eB]; exact PE.sl (hz b hbl) (PE.name ok g1 rfl) (PO.some (PE.name ok g2 rfl)) PO.none (by intro _ _; rfl)
    refine ex_assign (base := base) fe (hb.tr F3.keep) F3 (kdl he (.inl rfl)) rfl (flat_vs _).sq (pA _ _ _ _ _ rfl rfl) ?_
    intro h4 t4 k4 F4
    refine ex_assign (base := base) fe (hb.tr F4.keep) F4 (kdl he (.inl rfl)) rfl (flat_vs _).sq (pB _ _ _ _ _ rfl rfl) ?_
    intro h5 t5 k5 F5
    have m1 := stripP_mem a b
    have l1 := stripP_le a b
    refine lev_post W hA he fe (fun c h => ha c (m1.1 c h)) (fun c h => hbs c (m1.2 c h)) (by omega) (by omega) hb (F5.sl ⟨rfl, rfl, rfl, trivial⟩) ?_
    unfold lev strip
    rw [if_neg hab]

theorem sq_flat3 {P Q X : VP} (h1 : Flat P) (h2 : Flat Q) (h3 : Flat X) : ∀ Y ∈ [P, Q, X], Sq Y := by
  intro Y hY; simp at hY; rcases hY with rfl | rfl | rfl
  · exact h1.sq
  · exact h2.sq
  · exact h3.sq

theorem c_lev (W : W0 mg mb base) (hA : OkA A 988) {f : Addr} (hf : FnAt mg base "_levenshtein_distance" (fargs 5) (fbody 5) (fscope 5) f) {a b : List Nat} {m : Int}
    (ha : ∀ c ∈ a, c < 128) (hbs : ∀ c ∈ b, c < 128) (hal : a.length ≤ 40) (hbl : b.length ≤ 40) : Does prog w base A (.ref f) [vs (S a), vs (S b), vi m] (vi (lev a b m)) := by
  refine does_def ["a", "b", "max_cost"] W.B hf (hA.room (by decide)) ?_ rfl (by decide) (by decide) (sq_flat3 (flat_vs _) (flat_vs _) (flat_vi _)) ?_
  · intro pm code doc us h
    rcases us with _ | ⟨x, _ | ⟨y, _ | ⟨z, _ | ⟨u, us⟩⟩⟩⟩ <;> simp at h
    rfl
  intro s₀ s env E he fe hb0 F
  exact lev_body W (hA.deeper env) he fe ha hbs hal hbl hb0 F
end
end Mine
namespace Mine
open PySem PyProof.Rows PySem.Calls

/-! comprehensions: the environment -/
theorem closure_ok {env : Env} : ∀ (names : List (Str × NameKind)) (acc : List (Str × Addr)), (∀ x ∈ names, x.2 = .free → ∃ c, env.cells.lookup x.1 = some c) →
    (∀ x c, acc.lookup x = some c → env.cells.lookup x = some c) →
    ∃ cl, (forIn names acc (fun x r => if (x.2 == NameKind.free) = true then do let c ← cellOf env x.1; pure (ForInStep.yield ((x.1, c) :: r)) else pure (ForInStep.yield r)) : Sem (List (Str × Addr))) = pure cl ∧
      (∀ x c, cl.lookup x = some c → env.cells.lookup x = some c) ∧ (∀ x, ((acc.lookup x).isSome = true ∨ (x, NameKind.free) ∈ names) → (cl.lookup x).isSome = true)
  | [], acc, _, h => ⟨acc, rfl, h, fun x hx => by rcases hx with hx | hx; · exact hx
                                                  · cases hx⟩
  | (n, k) :: r, acc, hn, h => by
    by_cases hk : k = .free
    · subst hk
      obtain ⟨c, hc⟩ := hn (n, .free) List.mem_cons_self rfl
      obtain ⟨cl, h1, h2, h3⟩ := closure_ok r ((n, c) :: acc) (fun x hx => hn x (List.mem_cons_of_mem _ hx)) (fun x c' e => by
        rw [List.lookup_cons] at e
        by_cases hx : x = n
        · subst hx; simp at e; exact e ▸ hc
        · have : (x == n) = false := beq_eq_false_iff_ne.mpr hx
          rw [this] at e; exact h x c' e)
      refine ⟨cl, ?_, h2, fun x hx => h3 x ?_⟩
      · rw [List.forIn_cons]
        have hco : cellOf env n = pure c := by unfold cellOf; rw [hc]
        simp only [BEq.rfl, if_true, hco, pure_bind]
        exact h1
      · rw [List.lookup_cons]
        by_cases hxn : x = n
        · subst hxn; left; simp
        · have : (x == n) = false := beq_eq_false_iff_ne.mpr hxn
          rw [this]
          rcases hx with hx | hx
          · exact .inl hx
          · rcases List.mem_cons.mp hx with e | hx
            · cases e; exact absurd rfl hxn
            · exact .inr hx
    · have hk' : (k == NameKind.free) = false := by simpa using hk
      obtain ⟨cl, h1, h2, h3⟩ := closure_ok r acc (fun x hx => hn x (List.mem_cons_of_mem _ hx)) h
      refine ⟨cl, ?_, h2, fun x hx => h3 x ?_⟩
      · rw [List.forIn_cons]
        simp only [hk', Bool.false_eq_true, if_false, pure_bind]
        exact h1
      · rcases hx with hx | hx
        · exact .inl hx
        · rcases List.mem_cons.mp hx with e | hx
          · cases e; exact absurd rfl hk
          · exact .inr hx

theorem closure_in {env : Env} : ∀ (names : List (Str × NameKind)) (acc cl : List (Str × Addr)),
    (forIn names acc (fun x r => if (x.2 == NameKind.free) = true then do let c ← cellOf env x.1; pure (ForInStep.yield ((x.1, c) :: r)) else pure (ForInStep.yield r)) : Sem (List (Str × Addr))) = pure cl →
    (∀ x ∈ names, x.2 = .free → ∃ c, env.cells.lookup x.1 = some c) → ∀ x c, cl.lookup x = some c → acc.lookup x = some c ∨ (x, NameKind.free) ∈ names
  | [], acc, cl, h, _, x, c, e => by
    rw [List.forIn_nil] at h
    have : acc = cl := by
      have h' : (Sem.pure acc : Sem _) = Sem.pure cl := h
      cases h'; rfl
    subst this; exact .inl e
  | (n, k) :: r, acc, cl, h, hn, x, c, e => by
    rw [List.forIn_cons] at h
    by_cases hk : k = .free
    · subst hk
      obtain ⟨c', hc'⟩ := hn (n, .free) List.mem_cons_self rfl
      have hco : cellOf env n = pure c' := by unfold cellOf; rw [hc']
      simp only [BEq.rfl, if_true, hco, pure_bind] at h
      rcases closure_in r _ cl h (fun x hx => hn x (List.mem_cons_of_mem _ hx)) x c e with h1 | h1
      · rw [List.lookup_cons] at h1
        by_cases hx : x = n
        · subst hx; exact .inr List.mem_cons_self
        · have : (x == n) = false := beq_eq_false_iff_ne.mpr hx
          rw [this] at h1; exact .inl h1
      · exact .inr (List.mem_cons_of_mem _ h1)
    · have hk' : (k == NameKind.free) = false := by simpa using hk
      simp only [hk', Bool.false_eq_true, if_false, pure_bind] at h
      rcases closure_in r _ cl h (fun x hx => hn x (List.mem_cons_of_mem _ hx)) x c e with h1 | h1
      · exact .inl h1
      · exact .inr (List.mem_cons_of_mem _ h1)

theorem closureFor_ok {env : Env} {scope : Scope} (h : ∀ x ∈ scope.names, x.2 = .free → ∃ c, env.cells.lookup x.1 = some c) :
    ∃ cl, closureFor scope env = pure cl ∧ (∀ x c, cl.lookup x = some c → env.cells.lookup x = some c) ∧ (∀ x, (x, NameKind.free) ∈ scope.names → (cl.lookup x).isSome = true) ∧
      (∀ x c, cl.lookup x = some c → (x, NameKind.free) ∈ scope.names) := by
  obtain ⟨cl, h1, h2, h3⟩ := closure_ok scope.names [] h (by intro x c e; simp at e)
  refine ⟨cl, ?_, h2, fun x hx => h3 x (.inr hx), fun x c e => ?_⟩
  · unfold closureFor
    refine Eq.trans ?_ (bind_pure _ |>.trans h1)
    congr 1
  · rcases closure_in scope.names [] cl h1 h x c e with h' | h'
    · simp at h'
    · exact h'

theorem comp_env {M : Model} {A : Around} {E : Value → Shared → Prop} {s : Shared} {scope : Scope} {globals : Addr} {cl : List (Str × Addr)} {qual : Str} {env : Env} {Q : Env → Shared → Prop}
    (hQ : Q (newEnv scope s.heap.objs.size globals (cellsFrom (s.heap.objs.size + 1) scope.names cl) qual none .none (some env) builtinsNs) { s with heap := pushCells (s.heap.push { cls := .type "dict", data := .dict #[] }) scope.names }) :
    wpAny M A (newFunctionEnv scope globals cl [] qual none .none (some env)) Q E s := by
  simp only [newFunctionEnv, Option.isSome_some, if_true]
  refine wpAny_bind (wpAny_alloc ?_)
  refine wpAny_bind (wpAny_layCells _ (fun name kind cells => by cases hkc : kind == NameKind.cell <;> simp [hkc]) _ _ _ _ ?_)
  rw [show ({ s with heap := s.heap.push { cls := .type "dict", data := .dict #[] } } : Shared).heap.objs.size = s.heap.objs.size + 1 from Heap.size_push ..]
  exact wpAny_bind (wpAny_pure (wpAny_pure hQ))

theorem relabel_get {env : Env} : ∀ {names : List (Str × NameKind)} {x : Str} {k : NameKind}, names.lookup x = some k → k ≠ .free →
    (names.map fun (n, k) => if (k == NameKind.free && env.scope.kind == .function && env.kindOf n == some .cell) then (n, NameKind.cell) else (n, k)).lookup x = some k
  | [], _, _, h, _ => by simp at h
  | (n, k) :: r, x, k', h, hf => by
    have ih := @relabel_get env r x k'
    show List.lookup x ((if (k == NameKind.free && env.scope.kind == .function && env.kindOf n == some .cell) = true then (n, NameKind.cell) else (n, k)) :: _) = _
    cases hx : x == n with
    | true =>
      simp only [List.lookup_cons, hx] at h
      cases h
      have : (k == NameKind.free) = false := by simpa using hf
      simp [List.lookup_cons, hx, this]
    | false =>
      simp only [List.lookup_cons, hx] at h
      by_cases hc : (k == NameKind.free && env.scope.kind == .function && env.kindOf n == some .cell) = true
      · rw [if_pos hc]; simp only [List.lookup_cons, hx]; exact ih h hf
      · rw [if_neg hc]; simp only [List.lookup_cons, hx]; exact ih h hf
theorem relabel_free {env : Env} : ∀ {names : List (Str × NameKind)} {x : Str}, names.lookup x = some .free →
    let z := (names.map fun (n, k) => if (k == NameKind.free && env.scope.kind == .function && env.kindOf n == some .cell) then (n, NameKind.cell) else (n, k)).lookup x
    z = some .free ∨ z = some .cell
  | [], _, h => by simp at h
  | (n, k) :: r, x, h => by
    have ih := @relabel_free env r x
    show List.lookup x ((if (k == NameKind.free && env.scope.kind == .function && env.kindOf n == some .cell) = true then (n, NameKind.cell) else (n, k)) :: _) = _ ∨ List.lookup x ((if (k == NameKind.free && env.scope.kind == .function && env.kindOf n == some .cell) = true then (n, NameKind.cell) else (n, k)) :: _) = _
    cases hx : x == n with
    | true =>
      simp only [List.lookup_cons, hx] at h
      cases h
      split <;> simp [List.lookup_cons, hx]
    | false =>
      simp only [List.lookup_cons, hx] at h
      have := ih h
      by_cases hc : (k == NameKind.free && env.scope.kind == .function && env.kindOf n == some .cell) = true
      · rw [if_pos hc]; simp only [List.lookup_cons, hx]; exact this
      · rw [if_neg hc]; simp only [List.lookup_cons, hx]; exact this

/-- what the scope says of the names -/
def Kn (env : Env) (sc : Scope) : Prop := ∀ x k, sc.names.lookup x = some k → env.kindOf x = some k ∨ (k = .free ∧ env.kindOf x = some .cell)
theorem Kn.of_eq {env : Env} {sc : Scope} (h : env.scope = sc) : Kn env sc := fun _ _ hx => .inl (kd h hx)
theorem Kn.s {env : Env} {sc : Scope} (h : Kn env sc) {x : Str} {k : NameKind} (hx : sc.names.lookup x = some k) (hk : k ≠ .free) : env.kindOf x = some k := by
  rcases h x k hx with h | ⟨h, _⟩
  · exact h
  · exact absurd h hk
theorem Kn.g {env : Env} {sc : Scope} (h : Kn env sc) {x : Str} (hx : sc.names.lookup x = some .globalImplicit) : env.kindOf x = some .globalImplicit := h.s hx (by decide)
theorem Kn.relabel {env : Env} {sc : Scope} (cells : List (Str × Addr)) {cenv : Env} (h : cenv.scope = relabel sc env) : Kn cenv sc := by
  intro x k hx
  show cenv.scope.names.lookup x = _ ∨ (_ ∧ cenv.scope.names.lookup x = _)
  rw [h]
  by_cases hk : k = .free
  · subst hk
    rcases relabel_free (env := env) hx with e | e
    · exact .inl e
    · exact .inr ⟨rfl, e⟩
  · exact .inl (relabel_get hx hk)

/-- a scope in order -/
structure ScOk (sc : Scope) : Prop where
  nd : (sc.names.map (·.1)).Nodup
  kind : sc.kind = .function
  one : (sc.names.filter fun p => p.2 == .cell).length ≤ 1
  ncd : ∀ p ∈ sc.names, (p.1 == ("__classdict__" : Str)) = false
theorem lookup_of_mem : ∀ {l : List (Str × NameKind)}, (l.map (·.1)).Nodup → ∀ {x : Str} {k : NameKind}, (x, k) ∈ l → l.lookup x = some k
  | [], _, x, k, h => nomatch h
  | (n, k') :: r, hnd, x, k, h => by
    have hnd' := List.nodup_cons.mp (by simpa using hnd : (n :: r.map (·.1)).Nodup)
    rw [List.lookup_cons]
    rcases List.mem_cons.mp h with e | h'
    · cases e; simp
    · have hne : x ≠ n := by rintro rfl; exact hnd'.1 (List.mem_map.mpr ⟨(x, k), h', rfl⟩)
      have : (x == n) = false := beq_eq_false_iff_ne.mpr hne
      rw [this]; exact lookup_of_mem hnd'.2 h'
theorem one_of {l : List (Str × NameKind)} (h : (l.filter fun p => p.2 == .cell).length ≤ 1) {a b : Str} (ha : (a, NameKind.cell) ∈ l) (hb : (b, NameKind.cell) ∈ l) : a = b := by
  have h1 : (a, NameKind.cell) ∈ l.filter fun p => p.2 == .cell := List.mem_filter.mpr ⟨ha, rfl⟩
  have h2 : (b, NameKind.cell) ∈ l.filter fun p => p.2 == .cell := List.mem_filter.mpr ⟨hb, rfl⟩
  match hf : (l.filter fun p => p.2 == .cell), h, h1, h2 with
  | [], _, h1, _ => rw [hf] at h1; cases h1
  | [p], _, h1, h2 =>
    rw [hf] at h1 h2
    have e1 := List.mem_singleton.mp h1
    have e2 := List.mem_singleton.mp h2
    exact congrArg Prod.fst (e1.trans e2.symm)
  | _ :: _ :: _, h, _, _ => rw [hf] at h; simp at h

/-- cells of different names are different -/
def Apart (env : Env) : Prop := ∀ x y c, env.cells.lookup x = some c → env.cells.lookup y = some c → x = y

theorem cellsFrom_cases : ∀ (names : List (Str × NameKind)) (L : Nat) (acc : List (Str × Addr)) (x : Str) (c : Addr), (cellsFrom L names acc).lookup x = some c →
    (L ≤ c ∧ (x, NameKind.cell) ∈ names) ∨ acc.lookup x = some c
  | [], L, acc, x, c, h => .inr h
  | (n, k) :: r, L, acc, x, c, h => by
    unfold cellsFrom at h
    split at h
    · rename_i hk
      have hk' : k = .cell := by simpa using hk
      rcases cellsFrom_cases r _ _ x c h with ⟨h1, h2⟩ | h1
      · exact .inl ⟨by omega, List.mem_cons_of_mem _ h2⟩
      · rw [List.lookup_cons] at h1
        by_cases hx : x = n
        · subst hx
          simp at h1; subst h1
          exact .inl ⟨Nat.le_refl _, by rw [hk']; exact List.mem_cons_self⟩
        · have : (x == n) = false := beq_eq_false_iff_ne.mpr hx
          rw [this] at h1; exact .inr h1
    · rcases cellsFrom_cases r _ _ x c h with ⟨h1, h2⟩ | h1
      · exact .inl ⟨h1, List.mem_cons_of_mem _ h2⟩
      · exact .inr h1

theorem cellsFrom_other : ∀ (names : List (Str × NameKind)) (L : Nat) (acc : List (Str × Addr)) (x : Str), (x, NameKind.cell) ∉ names → (cellsFrom L names acc).lookup x = acc.lookup x
  | [], _, _, _, _ => rfl
  | (n, k) :: r, L, acc, x, h => by
    unfold cellsFrom
    have hr : (x, NameKind.cell) ∉ r := fun q => h (List.mem_cons_of_mem _ q)
    split
    · rename_i hk
      have hk' : k = .cell := by simpa using hk
      rw [cellsFrom_other r _ _ x hr, List.lookup_cons]
      have hne : x ≠ n := by rintro rfl; exact h (by rw [hk']; exact List.mem_cons_self)
      have : (x == n) = false := beq_eq_false_iff_ne.mpr hne
      rw [this]
    · exact cellsFrom_other r _ _ x hr

theorem cellsFrom_isCell : ∀ (names : List (Str × NameKind)) (h : Heap) (acc : List (Str × Addr)), (∀ x c, acc.lookup x = some c → ∃ u, h.IsCell c u) →
    ∀ x c, (cellsFrom h.objs.size names acc).lookup x = some c → ∃ u, (pushCells h names).IsCell c u
  | [], h, acc, ha, x, c, e => ha x c e
  | (n, k) :: r, h, acc, ha, x, c, e => by
    unfold cellsFrom at e
    unfold pushCells
    split at e
    · rename_i hk
      rw [if_pos hk]
      have hs : (h.push { cls := .type "cell", data := .cell none }).objs.size = h.objs.size + 1 := Heap.size_push ..
      rw [← hs] at e
      refine cellsFrom_isCell r _ _ (fun y d ed => ?_) x c e
      rw [List.lookup_cons] at ed
      by_cases hy : y = n
      · subst hy
        simp at ed; subst ed
        exact ⟨none, _, Heap.get?_push_size _ rfl, rfl⟩
      · have : (y == n) = false := beq_eq_false_iff_ne.mpr hy
        rw [this] at ed
        obtain ⟨u, hu⟩ := ha y d ed
        exact ⟨u, hu.keeps fun b o e => Heap.get?_push_of_some _ e⟩
    · rename_i hk
      rw [if_neg hk]
      exact cellsFrom_isCell r _ _ ha x c e
end Mine
namespace Mine
open PySem PyProof.Rows PySem.Calls

/-- the variables of a comprehension: all flat -/
def FVars (env : Env) (G : List (Str × VP)) (h : Heap) : Prop := ∀ x P, G.lookup x = some P → Flat P ∧ ∃ v, Loc env h x v ∧ P.p h v
theorem FVars.vars {env : Env} {G : List (Str × VP)} {h : Heap} (x : FVars env G h) : Vars env G h := fun y P e => (x y P e).2
theorem FVars.up {env : Env} {G : List (Str × VP)} {h h' : Heap} (k : Kp h h') (x : FVars env G h) : FVars env G h' := fun y P e =>
  let ⟨f, v, l, p⟩ := x y P e; ⟨f, v, l.up k, f _ _ _ p⟩

/-- an object that is a list changes: the names stay -/
theorem Loc.seq {env : Env} {h h' : Heap} {x : Str} {v : Value} {D : Addr} (hs : Heap.SameBut D h h') (ho : ∃ o, h.get? D = some o ∧ isSeq o = true) (l : Loc env h x v) : Loc env h' x v := by
  obtain ⟨o, ho, hq⟩ := ho
  have hc : ∀ c u, h.IsCell c u → h'.IsCell c u := fun c u hi => hi.sameBut hs (by
    rintro rfl
    obtain ⟨o', h1, h2⟩ := hi
    rw [ho] at h1; cases h1; simp [isSeq, h2] at hq)
  rcases l with ⟨a, m, n, e⟩ | ⟨a, c, lk, e⟩ | ⟨a, d, c, lk, e⟩
  · refine .inl ⟨a, m, n.sameBut hs ?_, e⟩
    rintro rfl
    obtain ⟨o', es, ep, h1, h2, _⟩ := n
    rw [ho] at h1; cases h1; simp [isSeq, h2] at hq
  · exact .inr (.inl ⟨a, c, lk, hc _ _ e⟩)
  · exact .inr (.inr ⟨a, d, c, lk, hc _ _ e⟩)
theorem FVars.seq {env : Env} {G : List (Str × VP)} {h h' : Heap} {D : Addr} (x : FVars env G h) (hs : Heap.SameBut D h h') (ho : ∃ o, h.get? D = some o ∧ isSeq o = true) : FVars env G h' := fun y P e =>
  let ⟨f, v, l, p⟩ := x y P e; ⟨f, v, l.seq hs ho, f _ _ _ p⟩

theorem ns_same {h : Heap} {a : Addr} {m m' : Str → Option Value} (x : h.Ns a m) (y : h.Ns a m') : m = m' := by
  obtain ⟨o, es, ep, h1, h2, _, h4⟩ := x
  obtain ⟨o', es', ep', h1', h2', _, h4'⟩ := y
  rw [h1] at h1'; cases h1'
  rw [h2] at h2'; cases h2'
  first
    | (funext z; rw [← h4, ← h4'])
    | (funext z; rw [h4, h4'])
    | (rw [← h4, ← h4'])
    | (rw [h4, h4'])

structure CE (env : Env) : Prop extends EnvOk env where
  ap : Apart env

/-- the comprehension's own objects: its names, its cells -/
def own (h₁ : Heap) (env : Env) : List Addr := env.locals :: env.cells.filterMap fun p => match env.cells.lookup p.1 with | some c => if (h₁.get? c).isNone then some c else none | none => none
theorem mem_own {h₁ : Heap} {env : Env} {x : Str} {c : Addr} (hl : env.cells.lookup x = some c) (hc : h₁.get? c = none) : c ∈ own h₁ env :=
  List.mem_cons_of_mem _ (List.mem_filterMap.mpr ⟨(x, c), mem_of_lookup hl, by rw [hl]; simp [hc]⟩)
theorem own_fresh {h₁ : Heap} {env : Env} (hL : h₁.get? env.locals = none) : ∀ b ∈ own h₁ env, h₁.get? b = none := by
  intro b hb
  rcases List.mem_cons.mp hb with rfl | hb
  · exact hL
  · obtain ⟨p, hp, e⟩ := List.mem_filterMap.mp hb
    split at e
    · split at e
      · rename_i h; cases e; simpa using h
      · cases e
    · cases e
theorem own_cases {h₁ : Heap} {env : Env} {b : Addr} (hb : b ∈ own h₁ env) : b = env.locals ∨ ∃ x, env.cells.lookup x = some b := by
  rcases List.mem_cons.mp hb with rfl | hb
  · exact .inl rfl
  · obtain ⟨p, hp, e⟩ := List.mem_filterMap.mp hb
    split at e
    · split at e
      · rename_i c hc h; cases e; exact .inr ⟨p.1, hc⟩
      · cases e
    · cases e

/-- the state within a comprehension -/
structure CS (s₁ : Shared) (env : Env) (D : Addr) (G : List (Str × VP)) (J : Heap → List Value → Prop) (s : Shared) : Prop where
  same : ∃ h tk, s = { s₁ with heap := h, toks := tk }
  kp : Kp s₁.heap s.heap
  ns : ∃ m, s.heap.Ns env.locals m
  cells : ∀ x c, env.cells.lookup x = some c → ∃ u, s.heap.IsCell c u
  fv : FVars env G s.heap
  acc : ∃ ys : List Value, s.heap.PlainList D ys.toArray ∧ J s.heap ys

section
variable {prog : Program} {w : World} {A : Around} {E : Value → Shared → Prop} {s₁ s : Shared} {env : Env} {D : Addr} {G : List (Str × VP)} {J : Heap → List Value → Prop}

theorem PlainList.isSeq {h : Heap} {D : Addr} {ys : Array Value} (x : h.PlainList D ys) : ∃ o, h.get? D = some o ∧ isSeq o = true := by
  obtain ⟨n, ho⟩ := x
  exact ⟨_, ho, rfl⟩

/-- only J's list and the comprehension's own objects may change -/
def KM (mu : List Addr) (h h' : Heap) : Prop := ∀ b o, b ∉ mu → h.get? b = some o → (∀ vs, o.data ≠ .fields vs) → h'.get? b = some o
theorem KX.km {mu : List Addr} {h h' : Heap} (k : KX mu h h') : KM mu h h' := fun b o hb e _ => k b o hb e
def Jst (mu : List Addr) (J : Heap → List Value → Prop) : Prop := ∀ h h' ys, J h ys → KM mu h h' → J h' ys

theorem CS.up (C : CS s₁ env D G J s) (hJ : Jst (D :: own s₁.heap env) J) {h' : Heap} {tk : Nat} (k : Kp s.heap h') : CS s₁ env D G J { s with heap := h', toks := tk } := by
  obtain ⟨⟨h, t, rfl⟩, kp, ⟨m, ns⟩, cells, fv, ys, ha, hj⟩ := C
  exact ⟨⟨h', tk, rfl⟩, kp.tr k, ⟨m, ns.keeps k⟩, fun x c hc => let ⟨u, hu⟩ := cells x c hc; ⟨u, hu.keeps k⟩, fv.up k, ys, ha.at fun o e => k _ _ e, hJ _ _ _ hj k.kx.km⟩

theorem CS.sub (C : CS s₁ env D G J s) {G' : List (Str × VP)} (h : ∀ x P, G'.lookup x = some P → G.lookup x = some P) : CS s₁ env D G' J s := ⟨C.same, C.kp, C.ns, C.cells, fun x P e => C.fv x P (h x P e), C.acc⟩

theorem store_c {x : Str} {v : Value} {P : VP} {Q : Unit → Shared → Prop} (ce : CE env) (hD : s₁.heap.get? D = none) (hL : s₁.heap.get? env.locals = none) (C : CS s₁ env D G J s) (hJ : Jst (D :: own s₁.heap env) J)
    (hk : env.kindOf x = some .local ∨ (env.kindOf x = some .cell ∧ ∃ c, env.cells.lookup x = some c ∧ s₁.heap.get? c = none)) (hf : Flat P) (hp : P.p s.heap v)
    (k : ∀ s', CS s₁ env D ((x, P) :: G) J s' → KX (D :: own s₁.heap env) s.heap s'.heap → Q () s') : wpAny (model prog w) A (storeName env x v) Q E s := by
  obtain ⟨⟨h, t, rfl⟩, kp, ⟨m, ns⟩, cells, fv, ys, ha, hj⟩ := C
  obtain ⟨od, hod, hoq⟩ := PlainList.isSeq ha
  rcases hk with hk | ⟨hk, c, hc, hcf⟩
  · refine wpAny_storeName_local hk ns (fun h' hn hs => ?_) (by rw [ce.k]; rfl)
    obtain ⟨oL, es, ep, hoL, hdL, _⟩ := id ns
    have hDL : D ≠ env.locals := by rintro rfl; rw [hod] at hoL; cases hoL; simp [isSeq, hdL] at hoq
    have kx : KX (D :: own s₁.heap env) h h' := fun b o hb e => (hs.2 b (fun q => hb (q ▸ List.mem_cons_of_mem _ List.mem_cons_self))).trans e
    have hcell : ∀ c u, h.IsCell c u → h'.IsCell c u := fun c u hi => hi.sameBut hs (by
      rintro rfl
      obtain ⟨o', h1, h2⟩ := hi
      rw [hoL] at h1; cases h1; rw [hdL] at h2; cases h2)
    refine k _ ⟨⟨h', _, rfl⟩, fun b o e => kx b o ?_ (kp b o e), ⟨_, hn⟩, fun y c hc => let ⟨u, hu⟩ := cells y c hc; ⟨u, hcell c u hu⟩, fun y P' e => ?_, ys, ha.at fun o e => (hs.2 D hDL).trans e, hJ _ _ _ hj kx.km⟩ kx
    · intro hb
      rcases List.mem_cons.mp hb with rfl | hb
      · rw [hD] at e; cases e
      · rw [own_fresh hL b hb] at e; cases e
    · rcases lookup_cons_cases e with ⟨rfl, rfl⟩ | ⟨hne, e⟩
      · exact ⟨hf, v, .inl ⟨hk, _, hn, by simp⟩, hf _ _ _ hp⟩
      · obtain ⟨f, u, l, p⟩ := fv y P' e
        refine ⟨f, u, ?_, f _ _ _ p⟩
        rcases l with ⟨a, m', n', e'⟩ | ⟨a, c, lk, e'⟩ | ⟨a, d, c, lk, e'⟩
        · have := ns_same n' ns; subst this
          exact .inl ⟨a, _, hn, by simp [hne, e']⟩
        · exact .inr (.inl ⟨a, c, lk, hcell _ _ e'⟩)
        · exact .inr (.inr ⟨a, d, c, lk, hcell _ _ e'⟩)
  · obtain ⟨u₀, hu₀⟩ := cells x c hc
    refine wpAny_storeName_cell ce.k hk hc hu₀ fun h' hc' hs => ?_
    obtain ⟨oc, hoc, hdc⟩ := id hu₀
    have hDc : D ≠ c := by rintro rfl; rw [hod] at hoc; cases hoc; simp [isSeq, hdc] at hoq
    have kx : KX (D :: own s₁.heap env) h h' := fun b o hb e => (hs.2 b (fun q => hb (q ▸ List.mem_cons_of_mem _ (mem_own hc hcf)))).trans e
    have hLc : env.locals ≠ c := by
      rintro rfl
      obtain ⟨oL, es, ep, hoL, hdL, _⟩ := id ns
      rw [hoc] at hoL; cases hoL; rw [hdL] at hdc; cases hdc
    refine k { heap := h', gens := s₁.gens, drawn := s₁.drawn, toks := t, os := s₁.os } ⟨⟨h', _, rfl⟩, fun b o e => kx b o ?_ (kp b o e), ⟨m, ns.sameBut hs hLc⟩, fun y c' hc₂ => ?_, fun y P' e => ?_, ys, ha.at fun o e => (hs.2 D hDc).trans e, hJ _ _ _ hj kx.km⟩ kx
    · intro hb
      rcases List.mem_cons.mp hb with rfl | hb
      · rw [hD] at e; cases e
      · rw [own_fresh hL b hb] at e; cases e
    · by_cases hcc : c' = c
      · subst hcc; exact ⟨_, hc'⟩
      · obtain ⟨u, hu⟩ := cells y c' hc₂
        exact ⟨u, hu.sameBut hs hcc⟩
    · rcases lookup_cons_cases e with ⟨rfl, rfl⟩ | ⟨hne, e⟩
      · exact ⟨hf, v, .inr (.inl ⟨hk, c, hc, hc'⟩), hf _ _ _ hp⟩
      · obtain ⟨f, u, l, p⟩ := fv y P' e
        refine ⟨f, u, ?_, f _ _ _ p⟩
        rcases l with ⟨a, m', n', e'⟩ | ⟨a, c', lk, e'⟩ | ⟨a, d, c', lk, e'⟩
        · exact .inl ⟨a, m', n'.sameBut hs hLc, e'⟩
        · exact .inr (.inl ⟨a, c', lk, e'.sameBut hs (fun q => hne (ce.ap y x c (q ▸ lk) hc))⟩)
        · exact .inr (.inr ⟨a, d, c', lk, e'.sameBut hs (fun q => hne (ce.ap y x c (q ▸ lk) hc))⟩)

/-- one more item -/
theorem append_c {v : Value} {J' : Heap → List Value → Prop} {Q : Value → Shared → Prop} (C : CS s₁ env D G J s) (hD : s₁.heap.get? D = none)
    (hsz : ∀ h ys, J h ys → ys.length ≤ sizeLine) (hJ' : ∀ h' ys, J s.heap ys → KX (D :: own s₁.heap env) s.heap h' → J' h' (ys ++ [v]))
    (k : ∀ s', CS s₁ env D G J' s' → KX (D :: own s₁.heap env) s.heap s'.heap → Q .none s') : wpAny (model prog w) A (call (.builtin "list.append") [.ref D, v]) Q E s := by
  obtain ⟨⟨h, t, rfl⟩, kp, ⟨m, ns⟩, cells, fv, ys, ha, hj⟩ := C
  obtain ⟨od, hod, hoq⟩ := PlainList.isSeq ha
  refine wpAny_list_append_plain (hsz := by simpa using hsz _ _ hj) ha fun h' ha' hs => ?_
  have kx : KX (D :: own s₁.heap env) h h' := fun b o hb e => (hs.2 b (fun q => hb (q ▸ List.mem_cons_self))).trans e
  refine k { heap := h', gens := s₁.gens, drawn := s₁.drawn, toks := t, os := s₁.os } ⟨⟨h', t, rfl⟩, fun b o e => (hs.2 b (by rintro rfl; rw [hD] at e; cases e)).trans (kp b o e), ⟨m, ns.sameBut hs ?_⟩, fun y c hc => ?_, fv.seq hs ⟨od, hod, hoq⟩, ys ++ [v], by simpa using ha', hJ' _ _ hj kx⟩ kx
  · rintro rfl
    obtain ⟨oL, es, ep, hoL, hdL, _⟩ := id ns
    rw [hod] at hoL; cases hoL; simp [isSeq, hdL] at hoq
  · obtain ⟨u, hu⟩ := cells y c hc
    refine ⟨u, hu.sameBut hs ?_⟩
    rintro rfl
    obtain ⟨o', h1, h2⟩ := hu
    rw [hod] at h1; cases h1; simp [isSeq, h2] at hoq
end
end Mine
namespace Mine
open PySem PyProof.Rows PySem.Calls

section
variable {prog : Program} {w : World} {A : Around} {E : Value → Shared → Prop} {s₁ s : Shared} {env : Env} {D : Addr} {G : List (Str × VP)} {J : Heap → List Value → Prop}

/-- an iterator moves on -/
theorem CS.iter (C : CS s₁ env D G J s) (hJ : Jst (D :: own s₁.heap env) J) {I : Addr} (hI : s₁.heap.get? I = none) (hf : ∃ o vs, s.heap.get? I = some o ∧ o.data = .fields vs) {h' : Heap} {tk : Nat}
    (k : ∀ b o, b ∉ [I] → s.heap.get? b = some o → h'.get? b = some o) : CS s₁ env D G J { s with heap := h', toks := tk } := by
  obtain ⟨⟨h, t, rfl⟩, kp, ⟨m, ns⟩, cells, fv, ys, ha, hj⟩ := C
  obtain ⟨oI, vs, hoI, hdI⟩ := hf
  have kk : ∀ b o, h.get? b = some o → (∀ vs, o.data ≠ .fields vs) → h'.get? b = some o := fun b o e hn => k b o (fun hb => by
    have : b = I := by simpa using hb
    subst this; rw [hoI] at e; cases e; exact hn _ hdI) e
  have hns : ∀ m, h.Ns env.locals m → h'.Ns env.locals m := by
    rintro m ⟨o, es, ep, h1, h2, r⟩
    exact ⟨o, es, ep, kk _ _ h1 (fun vs e => by rw [h2] at e; cases e), h2, r⟩
  have hcell : ∀ c u, h.IsCell c u → h'.IsCell c u := by
    rintro c u ⟨o, h1, h2⟩
    exact ⟨o, kk _ _ h1 (fun vs e => by rw [h2] at e; cases e), h2⟩
  refine ⟨⟨h', tk, rfl⟩, fun b o e => k b o (fun hb => ?_) (kp b o e), ⟨m, hns m ns⟩, fun y c hc => let ⟨u, hu⟩ := cells y c hc; ⟨u, hcell c u hu⟩, fun y P e => ?_, ys, ?_, hJ _ _ _ hj fun b o _ e hn => kk b o e hn⟩
  · have : b = I := by simpa using hb
    subst this; rw [hI] at e; cases e
  · obtain ⟨f, v, l, p⟩ := fv y P e
    refine ⟨f, v, ?_, f _ _ _ p⟩
    rcases l with ⟨a, m', n', e'⟩ | ⟨a, c', lk, e'⟩ | ⟨a, d, c', lk, e'⟩
    · exact .inl ⟨a, m', hns _ n', e'⟩
    · exact .inr (.inl ⟨a, c', lk, hcell _ _ e'⟩)
    · exact .inr (.inr ⟨a, d, c', lk, hcell _ _ e'⟩)
  · obtain ⟨n, ho⟩ := ha
    exact ⟨n, kk _ _ ho (fun vs e => by cases e)⟩

theorem kxI {I : Addr} {mu : List Addr} {h h' : Heap} (k : ∀ b o, b ∉ [I] → h.get? b = some o → h'.get? b = some o) : KX (I :: mu) h h' := fun b o hb e => k b o (fun q => hb (by
  have : b = I := by simpa using q
  subst this; exact List.mem_cons_self)) e
def testsOf (ifs : List Expr) (env : Env) : Sem Bool := forIn ifs true fun c r => if r = true then do let ok ← isTrue c env (eval c env); pure (ForInStep.yield ok) else pure (ForInStep.yield r)

theorem comp_loop {elt : Expr} {gens : List Comprehension} {scope : Scope} {pos p px : Pos} {d : Nat} {x : Str} {ifs : List Expr} {emit : Sem Unit} {I : Addr} {fp : List Addr} {Pi : Nat → Value → Prop} {St : Nat → Heap → Prop} {items : List VP}
    {R : Result → Shared → Prop} (JJ : Nat → Heap → List Value → Prop)
    (hturn : compTurn (.ListComp elt gens scope pos) d (.ref I) (.ref D) env = (standAt p >>= fun _ => pyNext (.ref I) >>= fun r => match r with
      | none => pure (.done .next)
      | some v => letOwnedTupleGo (.Name x px) (.ref I) v >>= fun _ => assign (.Name x px) env v >>= fun _ => testsOf ifs env >>= fun ok => if ok = true then emit >>= fun _ => again (.compLoop (.ListComp elt gens scope pos) d (.ref I) (.ref D) env) else again (.compLoop (.ListComp elt gens scope pos) d (.ref I) (.ref D) env)))
    (ce : CE env) (hD : s₁.heap.get? D = none) (hL : s₁.heap.get? env.locals = none) (hI : s₁.heap.get? I = none)
    (hk : env.kindOf x = some .local ∨ (env.kindOf x = some .cell ∧ ∃ c, env.cells.lookup x = some c ∧ s₁.heap.get? c = none)) (hxG : G.lookup x = none)
    (W : Walks prog w A I fp [I] items.length Pi St) (st0 : St 0 s.heap) (hfp : ∀ b ∈ fp, b ∉ D :: own s₁.heap env) (hfld : ∀ i hh, St i hh → ∃ o vs, hh.get? I = some o ∧ o.data = .fields vs)
    (hit : ∀ i v, Pi i v → ∃ R, items[i]? = some R ∧ Flat R ∧ ∃ h, R.p h v)
    (hJ : ∀ i, Jst (D :: own s₁.heap env) (JJ i)) (C : CS s₁ env D G (JJ 0) s)
    (body : ∀ i R s, items[i]? = some R → CS s₁ env D ((x, R) :: G) (JJ i) s → ∀ (E' : Value → Shared → Prop) (Q' : Shared → Prop),
      (∀ s', CS s₁ env D ((x, R) :: G) (JJ (i + 1)) s' → KX (D :: own s₁.heap env) s.heap s'.heap → Q' s') →
      wpAny (model prog w) A (testsOf ifs env) (fun ok s' => if ok = true then wpAny (model prog w) A emit (fun _ s'' => Q' s'') E' s' else Q' s') E' s)
    (hR : ∀ s', CS s₁ env D G (JJ items.length) s' → KX (I :: D :: own s₁.heap env) s.heap s'.heap → R (.ok .next) s') :
    codeAny (model prog w) A (.compLoop (.ListComp elt gens scope pos) d (.ref I) (.ref D) env) R s := by
  refine codeAny_loop rfl (fun n s' => ∃ i, n = items.length + 1 - i ∧ i ≤ items.length ∧ CS s₁ env D G (JJ i) s' ∧ St i s'.heap ∧ KX (I :: D :: own s₁.heap env) s.heap s'.heap) (fun n s' hI' => ?_) (items.length + 1) ⟨0, rfl, Nat.zero_le _, C, st0, fun _ _ _ e => e⟩
  obtain ⟨i, rfl, hle, C', st, kx⟩ := hI'
  show wpAny _ A ((compTurn (.ListComp elt gens scope pos) d (.ref I) (.ref D) env).onRaise (fun x => do noteFrame x env; theTreesLotGoes x)) _ _ s'
  refine wpAny_noted ?_
  rw [hturn]
  refine wpAny_bind (wpAny_standAt (wpAny_bind ?_))
  by_cases hlt : i < items.length
  · refine W.item i _ _ _ hlt st fun v h' tk hPv st' kk => ?_
    have C2 := C'.iter (tk := tk) (hJ i) hI (hfld i _ st) kk
    obtain ⟨P, hP, hPf, hh, hPp⟩ := hit i v hPv
    refine wpAny_bind (wpAny_of_eq (show letOwnedTupleGo (.Name x px) (.ref I) v = pure () from rfl) (wpAny_bind (wpAny_assign_Name (store_c ce hD hL C2 (hJ i) hk hPf (hPf _ _ _ hPp) fun s3 C3 kx3 => wpAny_bind ?_))))
    have st3 : St (i + 1) s3.heap := W.frame _ _ _ st' fun b hb o e => kx3 b o (hfp b hb) e
    have kxi : KX (I :: D :: own s₁.heap env) s'.heap h' := kxI kk
    have fin : ∀ s4, CS s₁ env D ((x, P) :: G) (JJ (i + 1)) s4 → KX (D :: own s₁.heap env) s3.heap s4.heap →
        ∃ i', items.length + 1 - (i + 1) = items.length + 1 - i' ∧ i' ≤ items.length ∧ CS s₁ env D G (JJ i') s4 ∧ St i' s4.heap ∧ KX (I :: D :: own s₁.heap env) s.heap s4.heap := by
      intro s4 C4 kx4
      refine ⟨i + 1, rfl, hlt, C4.sub fun y Q e => ?_, W.frame _ _ _ st3 fun b hb o e => kx4 b o (hfp b hb) e, kx.tr (kxi.tr ((kx3.tr kx4).mono fun p hp => List.mem_cons_of_mem _ hp))⟩
      rw [List.lookup_cons]
      have : (y == x) = false := by
        rw [beq_eq_false_iff_ne]; rintro rfl; rw [hxG] at e; cases e
      rw [this]; exact e
    have hb := body i P s3 hP C3 (notedBy (model prog w) A env fun e s' => R (.error e) s') (fun s4 => ∃ i', items.length + 1 - (i + 1) = items.length + 1 - i' ∧ i' ≤ items.length ∧ CS s₁ env D G (JJ i') s4 ∧ St i' s4.heap ∧ KX (I :: D :: own s₁.heap env) s.heap s4.heap) fin
    refine wpAny_mono hb (fun ok s4 h4 => ?_) fun _ _ e => e
    cases ok with
    | true =>
      simp only [if_true] at h4 ⊢
      exact wpAny_bind (wpAny_mono h4 (fun _ s5 h5 => wpAny_pure ⟨rfl, _, by omega, h5⟩) fun _ _ e => e)
    | false =>
      simp only [Bool.false_eq_true, if_false] at h4 ⊢
      exact wpAny_pure ⟨rfl, _, by omega, h4⟩
  · have hin : i = items.length := by omega
    subst hin
    refine W.done _ _ _ st fun h' tk kk => wpAny_pure ?_
    refine hR _ (C'.iter (tk := tk) (hJ _) hI (hfld _ _ st) kk) (kx.tr (kxI kk))
end
end Mine
namespace Mine
open PySem PyProof.Rows PySem.Calls

section
variable {prog : Program} {w : World} {base : Heap} {A : Around} {E : Value → Shared → Prop} {s : Shared} {env : Env} {G : List (Str × VP)}

/-- a comprehension, whatever is done with its list -/
def cmpr (elt : Expr) (gens : List Comprehension) (scope : Scope) (pos : Pos) (env : Env) (use : Option (Value → Sem Unit)) : Sem Value :=
  comprehension (.ListComp elt gens scope pos) scope env (firstIterPos gens pos) (newList []) (firstAsync gens) (firstIter gens env) use

theorem wp_comp {use : Option (Value → Sem Unit)} {elt iter : Expr} {x : Str} {px pos : Pos} {ifs : List Expr} {rest : List Comprehension} {scope : Scope} {P : VP} {Q : Value → Shared → Prop} (items : List VP) (ce : CE env) (hb : Kp base s.heap) (hv : Vars env G s.heap)
    (hsc : ScOk scope) (hi : PE prog w base A env G iter P) (hit : ∀ h v, P.p h v → It prog w A [] items h v) (hfl : ∀ R ∈ items, Flat R)
    (Gf : Heap → List (Str × VP))
    (hGf : ∀ h₁, Kp base h₁ → ∀ y P', (Gf h₁).lookup y = some P' → Flat P' ∧ scope.names.lookup y = some .free ∧ ∃ P, G.lookup y = some P ∧ ∀ v, P.p h₁ v → P'.p h₁ v)
    (hfree : ∀ y, (y, NameKind.free) ∈ scope.names → env.kindOf y ≠ some .local ∧ ∃ P, G.lookup y = some P)
    (hx : scope.names.lookup x = some .local ∨ scope.names.lookup x = some .cell)
    (emit : Env → Addr → Sem Unit)
    (hturn : ∀ cenv I D, compTurn (.ListComp elt (⟨.Name x px, iter, ifs, 0⟩ :: rest) scope pos) 0 (.ref I) (.ref D) cenv = (standAt iter.pos >>= fun _ => pyNext (.ref I) >>= fun r => match r with
      | none => pure (.done .next)
      | some v => letOwnedTupleGo (.Name x px) (.ref I) v >>= fun _ => assign (.Name x px) cenv v >>= fun _ => testsOf ifs cenv >>= fun ok =>
        if ok = true then emit cenv D >>= fun _ => again (.compLoop (.ListComp elt (⟨.Name x px, iter, ifs, 0⟩ :: rest) scope pos) 0 (.ref I) (.ref D) cenv) else again (.compLoop (.ListComp elt (⟨.Name x px, iter, ifs, 0⟩ :: rest) scope pos) 0 (.ref I) (.ref D) cenv)))
    (JJ : Shared → Env → Addr → Nat → Heap → List Value → Prop)
    (hJ : ∀ s₁ cenv D i, Jst (D :: own s₁.heap cenv) (JJ s₁ cenv D i)) (hJ0 : ∀ s₁ cenv D h, JJ s₁ cenv D 0 h [])
    (body : ∀ s₁ cenv D, Kp base s₁.heap → CE cenv → Kn cenv scope → s₁.heap.get? D = none → s₁.heap.get? cenv.locals = none → (∀ y c, scope.names.lookup y = some .cell → cenv.cells.lookup y = some c → s₁.heap.get? c = none) →
      ∀ i R s, items[i]? = some R → CS s₁ cenv D ((x, R) :: Gf s₁.heap) (JJ s₁ cenv D i) s → ∀ (E' : Value → Shared → Prop) (Q' : Shared → Prop),
      (∀ s', CS s₁ cenv D ((x, R) :: Gf s₁.heap) (JJ s₁ cenv D (i + 1)) s' → KX (D :: own s₁.heap cenv) s.heap s'.heap → Q' s') →
      wpAny (model prog w) A (testsOf ifs cenv) (fun ok s' => if ok = true then wpAny (model prog w) A (emit cenv D) (fun _ s'' => Q' s'') E' s' else Q' s') E' s)
    (k : ∀ s₁ cenv D h' tk (ys : List Value), Kp s.heap s₁.heap → s₁.heap.get? D = none → Kp s₁.heap h' → h'.PlainList D ys.toArray → JJ s₁ cenv D items.length h' ys → s₁.heap.get? cenv.locals = none → (∃ m, h'.Ns cenv.locals m) →
      compPost (model prog w) A E use Q (.ref D) cenv.locals (.ok .next) { s with heap := h', toks := tk })
    (hs : ∀ v, foldedSetIterable iter env v = pure v := by intro _; rfl) :
    wpAny (model prog w) A (cmpr elt (⟨.Name x px, iter, ifs, 0⟩ :: rest) scope pos env use) Q E s := by
  -- the closure
  have hcells : ∀ y, (y, NameKind.free) ∈ scope.names → ∃ c v P, env.cells.lookup y = some c ∧ s.heap.IsCell c (some v) ∧ G.lookup y = some P ∧ P.p s.heap v := by
    intro y hy
    obtain ⟨hk, P, hP⟩ := hfree y hy
    obtain ⟨v, l, p⟩ := hv y P hP
    rcases l with ⟨a, _⟩ | ⟨_, c, lk, e⟩ | ⟨_, _, c, lk, e⟩
    · exact absurd a hk
    · exact ⟨c, v, P, lk, e, hP, p⟩
    · exact ⟨c, v, P, lk, e, hP, p⟩
  obtain ⟨cl, hclos, hcl1, hcl2, hcl3⟩ := closureFor_ok (env := env) (scope := scope) (fun y hy hf => by
    obtain ⟨c, v, P, h1, _⟩ := hcells y.1 (by rw [← hf]; exact hy)
    exact ⟨c, h1⟩)
  refine wpAny_comprehension_free (use := use) rfl hs hclos hsc.kind (fun y hy hl => lookup_of_mem hsc.nd (by rw [← hl]; exact hy)) ?_
  refine hi s _ E hb hv fun xv h1 t1 k1 p1 => ?_
  refine hit h1 xv p1 { s with heap := h1, toks := t1 } _ E Kp.rf (fun b hb => nomatch hb) fun I fp Pi St h2 t2 W st0 hfm hfp hI hfld k2 hitem => ?_
  refine wpAny_newObj_type (comp_env ?_)
  dsimp only
  generalize hH3 : (h2.push { cls := .type "list", dict := none, data := .seq ([] : List Value).toArray }) = h3
  have hs3 : h3.objs.size = h2.objs.size + 1 := by rw [← hH3, Heap.size_push]
  have k3 : Kp h2 h3 := by rw [← hH3]; exact Kp.push _ _
  have hD3 : h3.PlainList h2.objs.size #[] := ⟨_, by rw [← hH3]; exact Heap.get?_push_size _ rfl⟩
  generalize hce : ({ newEnv scope h3.objs.size env.globals (cellsFrom (h3.objs.size + 1) scope.names cl) env.qual none Value.none (some env) builtinsNs with scope := relabel scope env } : Env) = cenv
  have eL : cenv.locals = h3.objs.size := by rw [← hce]; rfl
  have eL' : (newEnv scope h3.objs.size env.globals (cellsFrom (h3.objs.size + 1) scope.names cl) env.qual none Value.none (some env) builtinsNs).locals = cenv.locals := by rw [← hce]
  have eC : cenv.cells = cellsFrom (h3.objs.size + 1) scope.names cl := by rw [← hce]; rfl
  have eS : cenv.scope = relabel scope env := by rw [← hce]
  rw [eL']
  generalize hD : h2.objs.size = D at hD3 hs3 ⊢
  have k13 : Kp h1 h3 := k2.tr k3
  have fresh : ∀ b, h3.objs.size ≤ b → h1.get? b = none := fun b hb => by
    cases e : h1.get? b with
    | none => rfl
    | some o => exact absurd (Heap.lt_size (k13 b o e)) (Nat.not_lt.mpr hb)
  have hDf : h1.get? D = none := by rw [← hD]; exact k2.none_of
  have hLf : h1.get? cenv.locals = none := by rw [eL]; exact fresh _ (Nat.le_refl _)
  generalize hH4 : pushCells (h3.push { cls := .type "dict", data := .dict #[] }) scope.names = h4
  have k4' : Kp (h3.push { cls := .type "dict", data := .dict #[] }) h4 := by rw [← hH4]; exact pushCells_keeps _ _
  have k4 : Kp h3 h4 := (Kp.push _ _).tr k4'
  have hclK : Kn cenv scope := Kn.relabel [] eS
  have clsome : ∀ y c, cl.lookup y = some c → ∃ o, h1.get? c = some o := by
    intro y c e
    obtain ⟨c', v, P, hc, hi0, _⟩ := hcells y (hcl3 y c e)
    rw [hcl1 y c e] at hc; cases hc
    obtain ⟨o, ho, _⟩ := hi0
    exact ⟨o, k1 _ _ ho⟩
  have hap : Apart cenv := by
    intro a b c ha hb'
    rw [eC] at ha hb'
    rcases cellsFrom_cases _ _ _ _ _ ha with ⟨ha1, ha2⟩ | ha1 <;> rcases cellsFrom_cases _ _ _ _ _ hb' with ⟨hb1, hb2⟩ | hb1
    · exact one_of hsc.one ha2 hb2
    · obtain ⟨o, e⟩ := clsome _ _ hb1
      rw [fresh c (by omega)] at e; cases e
    · obtain ⟨o, e⟩ := clsome _ _ ha1
      rw [fresh c (by omega)] at e; cases e
    · exact ce.ap a b c (hcl1 _ _ ha1) (hcl1 _ _ hb1)
  have hCE : CE cenv := ⟨⟨by rw [eS]; exact hsc.kind, by rw [← hce]; exact ce.g, by rw [← hce]; exact ce.b⟩, hap⟩
  have owncell : ∀ y c, scope.names.lookup y = some .cell → cenv.cells.lookup y = some c → h1.get? c = none := by
    intro y c hy hc
    rw [eC] at hc
    rcases cellsFrom_cases _ _ _ _ _ hc with ⟨h, _⟩ | h
    · exact fresh c (by omega)
    · have := lookup_of_mem hsc.nd (hcl3 y c h)
      rw [hy] at this; cases this
  have hcs : CS { s with heap := h1, toks := t1 } cenv D (Gf h1) (JJ { s with heap := h1, toks := t1 } cenv D 0) { s with heap := h4, toks := t2 } := by
    refine ⟨⟨h4, t2, rfl⟩, k13.tr k4, ⟨_, by rw [eL]; exact (Heap.Ns.new h3 (.type "dict")).keeps k4'⟩, fun y c hc => ?_, fun y P' e => ?_, [], hD3.at fun o e => k4 _ _ e, hJ0 _ _ _ _⟩
    · rw [eC] at hc
      have hsz : h3.objs.size + 1 = (h3.push { cls := .type "dict", data := .dict #[] }).objs.size := (Heap.size_push ..).symm
      rw [hsz] at hc
      rw [← hH4]
      refine cellsFrom_isCell _ _ _ (fun z d ez => ?_) y c hc
      obtain ⟨c', v, P, hc', hi0, _⟩ := hcells z (hcl3 z d ez)
      rw [hcl1 z d ez] at hc'; cases hc'
      exact ⟨_, hi0.keeps (k1.tr (k13.tr (Kp.push _ _)))⟩
    · obtain ⟨hPf, hfr, P, hP, himp⟩ := hGf h1 (hb.tr k1) y P' e
      have hmem : (y, NameKind.free) ∈ scope.names := mem_of_lookup hfr
      obtain ⟨c, v, P0, hc, hi0, hP0, hp0⟩ := hcells y hmem
      rw [hP] at hP0; cases hP0
      have hncell : (y, NameKind.cell) ∉ scope.names := fun q => by
        have := lookup_of_mem hsc.nd q
        rw [hfr] at this; cases this
      have hlk : cenv.cells.lookup y = some c := by
        rw [eC, cellsFrom_other _ _ _ _ hncell]
        obtain ⟨c', hc'⟩ := Option.isSome_iff_exists.mp (hcl2 y hmem)
        rw [hc', ← hcl1 _ _ hc', hc]
      have hcell : h4.IsCell c (some v) := hi0.keeps (k1.tr (k13.tr k4))
      refine ⟨hPf, v, ?_, hPf _ _ _ (himp v (P.up _ _ _ k1 hp0))⟩
      rcases hclK y .free hfr with hk | ⟨_, hk⟩
      · exact .inr (.inr ⟨hk, hsc.ncd _ hmem, c, hlk, hcell⟩)
      · exact .inr (.inl ⟨hk, c, hlk, hcell⟩)
  have hk : cenv.kindOf x = some .local ∨ (cenv.kindOf x = some .cell ∧ ∃ c, cenv.cells.lookup x = some c ∧ h1.get? c = none) := by
    rcases hx with hx | hx
    · exact .inl (hclK.s hx (by decide))
    · refine .inr ⟨hclK.s hx (by decide), ?_⟩
      have hsome : ((cellsFrom (h3.objs.size + 1) scope.names cl).lookup x).isSome = true := cells_names scope.names _ _ x (.inl hx)
      obtain ⟨c, hc⟩ := Option.isSome_iff_exists.mp hsome
      exact ⟨c, by rw [eC]; exact hc, owncell x c hx (by rw [eC]; exact hc)⟩
  have hxG : (Gf h1).lookup x = none := by
    cases e : (Gf h1).lookup x with
    | none => rfl
    | some P' =>
      obtain ⟨_, hfr, _⟩ := hGf h1 (hb.tr k1) x P' e
      rcases hx with hx | hx <;> (rw [hx] at hfr; cases hfr)
  have hIf : h1.get? I = none := hI
  have hfpm : ∀ b ∈ fp, b ∉ D :: own h1 cenv := by
    intro b hbf hbm
    have hlt := hfp b hbf
    rcases List.mem_cons.mp hbm with rfl | hbm
    · rw [← hD] at hlt; exact Nat.lt_irrefl _ hlt
    · rcases own_cases hbm with rfl | ⟨y, hy⟩
      · rw [eL, hs3, ← hD] at hlt; exact Nat.lt_irrefl _ (Nat.lt_of_succ_lt hlt)
      · rw [eC] at hy
        rcases cellsFrom_cases _ _ _ _ _ hy with ⟨h, _⟩ | h
        · rw [hs3, ← hD] at h; exact Nat.lt_irrefl _ (Nat.lt_of_lt_of_le hlt (Nat.le_of_succ_le (Nat.le_of_succ_le h)))
        · obtain ⟨o, e⟩ := clsome _ _ h
          rw [own_fresh hLf b hbm] at e; cases e
  have loop : codeAny (model prog w) A (.compLoop (.ListComp elt (⟨.Name x px, iter, ifs, 0⟩ :: rest) scope pos) 0 (.ref I) (.ref D) cenv) (compPost (model prog w) A E use Q (.ref D) cenv.locals) { s with heap := h4, toks := t2 } := by
    refine comp_loop (s₁ := { s with heap := h1, toks := t1 }) (JJ := JJ { s with heap := h1, toks := t1 } cenv D) (items := items) (fp := fp) (hturn cenv I D) hCE hDf hLf hIf hk hxG W (W.frame _ _ _ st0 fun b hbf o e => k4 _ _ (k3 _ _ e)) hfpm hfld
      (fun i v hPv => ?_) (hJ _ _ _) hcs (body _ cenv D (hb.tr k1) hCE hclK hDf hLf owncell) fun s' C' kx => ?_
    · obtain ⟨R, hR, hp⟩ := hitem i v hPv
      exact ⟨R, hR, hfl R (List.mem_of_getElem? hR), _, hp⟩
    · obtain ⟨⟨h', tk', rfl⟩, kp', ⟨m', ns'⟩, cells', fv', ys, ha, hj⟩ := C'
      exact k { s with heap := h1, toks := t1 } cenv D h' tk' ys k1 hDf kp' ha hj hLf ⟨m', ns'⟩
  exact codeAny_compStart_list loop (W.self 0 _ _ _ (W.frame _ _ _ st0 fun b hbf o e => k4 _ _ (k3 _ _ e)) loop)
end

/-- a comprehension gives a new list of which R holds -/
def PC (prog : Program) (w : World) (base : Heap) (A : Around) (env : Env) (G : List (Str × VP)) (elt : Expr) (gens : List Comprehension) (scope : Scope) (pos : Pos) (R : VP) : Prop :=
  ∀ (s : Shared) (Q : Value → Shared → Prop) (E : Value → Shared → Prop) (use : Option (Value → Sem Unit)), Kp base s.heap → Vars env G s.heap →
    (∀ D h' tk C, Kp s.heap h' → R.p h' (.ref D) → s.heap.get? C = none → (∃ m, h'.Ns C m) → compPost (model prog w) A E use Q (.ref D) C (.ok .next) { s with heap := h', toks := tk }) →
    wpAny (model prog w) A (cmpr elt gens scope pos env use) Q E s

theorem ks_ns {h h' : Heap} {C : Addr} {m : Str → Option Value} (hn : h.Ns C m) (hs : Heap.SameBut C h h') : Ks h h' := by
  obtain ⟨o, es, ep, h1, h2, _⟩ := hn
  exact ks_of_sameBut hs fun o' e => by rw [h1] at e; cases e; simp [isSeq, h2]

section
variable {prog : Program} {w : World} {base : Heap} {A : Around} {E : Value → Shared → Prop} {s₀ s : Shared} {env : Env} {G : List (Str × VP)}

theorem PC.pe {elt : Expr} {gens : List Comprehension} {scope : Scope} {pos : Pos} {R : VP} (h : PC prog w base A env G elt gens scope pos R) (hq : Sq R) : PE prog w base A env G (.ListComp elt gens scope pos) R := by
  intro s Q E hb hv k
  rw [eval_ListComp]
  refine h s Q E none hb hv fun D h' tk C kp hR hC ⟨m, hn⟩ => ⟨m, hn, fun h'' hs => ?_⟩
  exact k _ h'' tk (fun b o e => (hs.2 b (fun q => by subst q; rw [hC] at e; cases e)).trans (kp b o e)) (hq _ _ _ (ks_ns hn hs) hR)
theorem PC.congr {elt : Expr} {gens : List Comprehension} {scope : Scope} {pos : Pos} {R R' : VP} (h : PC prog w base A env G elt gens scope pos R) (e : R = R') : PC prog w base A env G elt gens scope pos R' := e ▸ h
theorem PC.weaken {elt : Expr} {gens : List Comprehension} {scope : Scope} {pos : Pos} {R R' : VP} (h : PC prog w base A env G elt gens scope pos R) (e : ∀ hp v, R.p hp v → R'.p hp v) : PC prog w base A env G elt gens scope pos R' :=
  fun s Q E use hb hv k => h s Q E use hb hv fun D h' tk C kp hR hC hn => k D h' tk C kp (e _ _ hR) hC hn

/-- an object that is none of the frame's and no list changes -/
theorem Fs.off (F : Fs s₀ env G s) {C : Addr} {m : Str → Option Value} {h' : Heap} {tk : Nat} (hn : s.heap.Ns C m) (hs : Heap.SameBut C s.heap h') (hC : C ∉ fa env) (hC0 : s₀.heap.get? C = none) : Fs s₀ env G { s with heap := h', toks := tk } := by
  have ks := ks_ns hn hs
  obtain ⟨m, cm, ⟨⟨same, ns, keep, fresh⟩, cell, apart, above⟩, hv⟩ := F.ic
  refine ⟨⟨m, cm, ⟨⟨?_, ns.sameBut hs (fun q => hC (q ▸ List.mem_cons_self)), fun b o e => (hs.2 b (fun q => by subst q; rw [hC0] at e; cases e)).trans (keep b o e), fresh⟩, fun n c hc => (cell n c hc).sameBut hs (fun q => hC (q ▸ lookup_mem_fa hc)), apart, above⟩, fun x P e => ?_⟩, F.sq⟩
  · obtain ⟨h, t, rfl⟩ := same
    exact ⟨h', tk, rfl⟩
  · obtain ⟨v, h1, h2⟩ := hv x P e
    exact ⟨v, h1, F.sq x P e _ _ _ ks h2⟩

/-- name = [..] -/
theorem ex_assignC {x : Str} {p' pos pos' : Pos} {elt : Expr} {gens : List Comprehension} {scope : Scope} {rest : List Stmt} {P : VP} {Q : Flow → Shared → Prop} (fe : FEnv env) (hb : Kp base s.heap) (F : Fs s₀ env G s)
    (hk : env.kindOf x = some .local) (hs : swapsWith (.ListComp elt gens scope pos') (some (.Name x p')) pos.line env = pure true) (hq : Sq P) (he : PC prog w base A env G elt gens scope pos' P)
    (k : ∀ h' tk, Kf env s.heap h' → Fs s₀ env ((x, P) :: G) { s with heap := h', toks := tk } → wpAny (model prog w) A (execs rest env) Q E { s with heap := h', toks := tk }) :
    wpAny (model prog w) A (execs (.Assign [.Name x p'] (.ListComp elt gens scope pos') pos :: rest) env) Q E s := by
  refine wpAny_execs_cons ?_
  rw [exec_Assign_Name_used _ _ _ _ hs]
  refine wpAny_bind (wpAny_standAt (wpAny_bind ?_))
  show wpAny _ A (do let _ ← cmpr elt gens scope pos' env (some (assign (.Name x p') env))) _ _ s
  refine wpAny_bind (wpAny_mono (he s (fun _ s' => wpAny (model prog w) A (execs rest env) Q E s') E (some (assign (.Name x p') env)) hb (F.vars fe) fun D h' tk C kp hR hC ⟨m, hn⟩ => ?_) (fun _ s' hq' => wpAny_pure (wpAny_pure hq')) fun _ _ e => e)
  have hCfa : C ∉ fa env := fun q => by obtain ⟨o, e, _⟩ := F.fa_some C q; rw [hC] at e; cases e
  have hC0 : s₀.heap.get? C = none := by
    cases e : s₀.heap.get? C with
    | none => rfl
    | some o => have := F.keep _ _ e; rw [hC] at this; cases this
  refine wpAny_assign_Name (store_ fe (F.up (tk := tk) kp) (.inl hk) hR hq fun h2 t2 kf F2 => ?_)
  have hn2 : h2.Ns C m := by
    obtain ⟨o, es, ep, ho, r⟩ := hn
    exact ⟨o, es, ep, kf.kx C o hCfa ho, r⟩
  refine ⟨m, hn2, fun h3 hs3 => k h3 t2 ?_ (F2.off hn2 hs3 hCfa hC0)⟩
  have ks3 := ks_ns hn2 hs3
  exact ⟨kp.ks.tr (kf.ks.tr ks3), fun b o hb e => (hs3.2 b (fun q => by subst q; rw [hC] at e; cases e)).trans (kf.kx b o hb (kp b o e))⟩
end
end Mine
namespace Mine
open PySem PyProof.Rows PySem.Calls

theorem Kp.none {h h' : Heap} (k : Kp h h') {r : Addr} (hr : h'.get? r = none) : h.get? r = none := by
  cases e : h.get? r with
  | none => rfl
  | some o => have := k _ _ e; rw [hr] at this; cases this
/-- a new plain list -/
theorem plainL_ks {h h' : Heap} {a : Addr} {us : Array Value} (k : Ks h h') (x : PlainL h a us) : PlainL h' a us := by
  obtain ⟨o, n, e, c, d, q⟩ := x
  exact ⟨o, n, k a o e (by simp [isSeq, q]), c, d, q⟩
def vlp (h₀ : Heap) (Ps : List VP) : VP := ⟨fun h v => ∃ (a : Addr) (us : List Value), v = .ref a ∧ h₀.get? a = none ∧ PlainL h a us.toArray ∧ All2 h us Ps,
  fun _ _ _ k ⟨a, us, e, n, l, x⟩ => ⟨a, us, e, n, plainL_ks k.ks l, x.up k⟩⟩
theorem sq_vlp {h₀ : Heap} {Ps : List VP} (hs : ∀ P ∈ Ps, Sq P) : Sq (vlp h₀ Ps) := fun _ _ _ k ⟨a, us, e, n, l, x⟩ => ⟨a, us, e, n, plainL_ks k l, x.sq k hs⟩
theorem vlp_vl {h₀ : Heap} {Ps : List VP} {h : Heap} {v : Value} (x : (vlp h₀ Ps).p h v) : (vl Ps).p h v := let ⟨a, us, e, _, l, y⟩ := x; ⟨a, us, e, l.isList, y⟩
theorem vlp_vln {h₀ : Heap} {Ps : List VP} {h : Heap} {v : Value} (x : (vlp h₀ Ps).p h v) : (vln h₀ Ps).p h v := let ⟨a, us, e, n, l, y⟩ := x; ⟨a, us, e, n, l.isList, y⟩

section
variable (prog : Program) (w : World) (base : Heap) (A : Around) (env : Env) (G : List (Str × VP))
/-- the tests of a clause come out as b -/
def Ts : List Expr → Bool → Prop
  | [], b => b = true
  | [t], b => PT prog w base A env G t b
  | _, _ => False
def Tn (ifs : List Expr) (elt : Expr) (out : List VP) : Prop := ∃ b, Ts prog w base A env G ifs b ∧ (b = true → ∃ V, out = [V] ∧ PE prog w base A env G elt V) ∧ (b = false → out = [])
end

theorem flatten_take_succ {α : Type} (l : List (List α)) (i : Nat) (o : List α) (h : l[i]? = some o) : (l.take (i + 1)).flatten = (l.take i).flatten ++ o := by
  rw [List.take_add_one, h]; simp
theorem all2_flat {h h' : Heap} : ∀ {us : List Value} {Ps : List VP}, (∀ P ∈ Ps, Flat P) → All2 h us Ps → All2 h' us Ps
  | [], [], _, _ => trivial
  | _ :: _, P :: _, f, ⟨x, r⟩ => ⟨f P (.head _) _ _ _ x, all2_flat (fun Q hQ => f Q (.tail _ hQ)) r⟩

section
variable {prog : Program} {w : World} {base : Heap} {A : Around} {E : Value → Shared → Prop} {s₁ s : Shared} {env : Env} {D : Addr} {G : List (Str × VP)} {J : Heap → List Value → Prop}

theorem tests_ok {ifs : List Expr} {b : Bool} {Q : Bool → Shared → Prop} (ht : Ts prog w s.heap A env G ifs b) (hv : Vars env G s.heap)
    (k : ∀ h' tk, Kp s.heap h' → Q b { s with heap := h', toks := tk }) : wpAny (model prog w) A (testsOf ifs env) Q E s := by
  match ifs, ht with
  | [], ht =>
    have : b = true := ht
    subst this
    exact wpAny_tests_nil (k s.heap s.toks Kp.rf)
  | [t], ht => exact wpAny_tests_one (PT_at ht hv k)
where
  PT_at {t : Expr} {b : Bool} {Q : Bool → Shared → Prop} (ht : PT prog w s.heap A env G t b) (hv : Vars env G s.heap) (k : ∀ h' tk, Kp s.heap h' → Q b { s with heap := h', toks := tk }) :
    wpAny (model prog w) A (isTrue t env (eval t env)) Q E s := ht s Q E Kp.rf hv k

/-- a turn of the innermost clause, all flat -/
theorem turn_flat {ifs : List Expr} {elt : Expr} {out os : List VP} (hD : s₁.heap.get? D = none) (C : CS s₁ env D G (fun h ys => All2 h ys os) s)
    (hos : ∀ P ∈ os, Flat P) (hout : ∀ P ∈ out, Flat P) (hsz : os.length ≤ sizeLine)
    (ht : ∀ base'', Kp s₁.heap base'' → Tn prog w base'' A env G ifs elt out) (E' : Value → Shared → Prop) (Q' : Shared → Prop)
    (k : ∀ s', CS s₁ env D G (fun h ys => All2 h ys (os ++ out)) s' → KX (D :: own s₁.heap env) s.heap s'.heap → Q' s') :
    wpAny (model prog w) A (testsOf ifs env) (fun ok s' => if ok = true then wpAny (model prog w) A (eval elt env >>= fun v => call (.builtin "list.append") [.ref D, v] >>= fun _ => pure ()) (fun _ s'' => Q' s'') E' s' else Q' s') E' s := by
  have hJ : Jst (D :: own s₁.heap env) (fun h ys => All2 h ys os) := fun h h' ys hj _ => all2_flat hos hj
  obtain ⟨b, hb, h1, h0⟩ := ht s.heap C.kp
  refine tests_ok hb C.fv.vars fun h' tk kk => ?_
  have C1 := C.up (tk := tk) hJ kk
  cases b with
  | false =>
    simp only [Bool.false_eq_true, if_false]
    have : out = [] := h0 rfl
    subst this
    refine k _ ⟨C1.same, C1.kp, C1.ns, C1.cells, C1.fv, ?_⟩ kk.kx
    obtain ⟨ys, a, j⟩ := C1.acc
    exact ⟨ys, a, by simpa using j⟩
  | true =>
    simp only [if_true]
    obtain ⟨V, rfl, hV⟩ := h1 rfl
    refine wpAny_bind (hV _ _ _ kk C1.fv.vars fun v h2 t2 k2 p2 => wpAny_bind ?_)
    have C2 := C1.up (tk := t2) hJ k2
    refine append_c C2 hD (fun h ys hj => by rw [hj.length]; exact hsz) (J' := fun h ys => All2 h ys (os ++ [V])) (fun h3 ys hj _ => (all2_flat hos hj).append ⟨hout V (by simp) _ _ _ p2, trivial⟩) fun s3 C3 kx3 => ?_
    exact wpAny_pure (k _ C3 ((kk.tr k2).kx.tr kx3))

theorem PC.comp1 {elt iter : Expr} {x : Str} {px pos : Pos} {ifs : List Expr} {scope : Scope} {P : VP} (items : List VP) (outs : List (List VP)) (ce : CE env)
    (hsc : ScOk scope) (hi : PE prog w base A env G iter P) (hit : ∀ h v, P.p h v → It prog w A [] items h v) (hfl : ∀ R ∈ items, Flat R)
    (Gf : Heap → List (Str × VP))
    (hGf : ∀ h₁, Kp base h₁ → ∀ y P', (Gf h₁).lookup y = some P' → Flat P' ∧ scope.names.lookup y = some .free ∧ ∃ P, G.lookup y = some P ∧ ∀ v, P.p h₁ v → P'.p h₁ v)
    (hfree : ∀ y, (y, NameKind.free) ∈ scope.names → env.kindOf y ≠ some .local ∧ ∃ P, G.lookup y = some P)
    (hx : scope.names.lookup x = some .local ∨ scope.names.lookup x = some .cell)
    (hlen : outs.length = items.length) (hofl : ∀ o ∈ outs, ∀ P ∈ o, Flat P) (hosz : outs.flatten.length ≤ sizeLine)
    (el : ∀ (base' : Heap) (cenv : Env) (base'' : Heap) (i : Nat) (R : VP) (out : List VP), Kp base base' → CE cenv → Kn cenv scope → Kp base' base'' → items[i]? = some R → outs[i]? = some out → Tn prog w base'' A cenv ((x, R) :: Gf base') ifs elt out)
    (hs : ∀ v, foldedSetIterable iter env v = pure v := by intro _; rfl) :
    PC prog w base A env G elt [⟨.Name x px, iter, ifs, 0⟩] scope pos (vlp base outs.flatten) := by
  intro s Q E use hb hv k
  have hfo : ∀ i, ∀ P ∈ (outs.take i).flatten, Flat P := fun i P hP => by
    obtain ⟨o, ho, hPo⟩ := List.mem_flatten.mp hP
    exact hofl o (List.mem_of_mem_take ho) P hPo
  have hle : ∀ i, (outs.take i).flatten.length ≤ outs.flatten.length := fun i => by
    have e : outs.flatten = (outs.take i).flatten ++ (outs.drop i).flatten := by rw [← List.flatten_append, List.take_append_drop]
    rw [e, List.length_append]; omega
  refine wp_comp (base := base) items ce hb hv hsc hi hit hfl Gf hGf hfree hx (fun cenv D => eval elt cenv >>= fun v => call (.builtin "list.append") [.ref D, v] >>= fun _ => pure ()) (by intro cenv I D; rfl)
    (fun _ _ _ i h ys => All2 h ys (outs.take i).flatten) (fun s₁ cenv D i h h' ys hj _ => all2_flat (hfo i) hj) (fun _ _ _ _ => trivial) ?_ ?_ hs
  · intro s₁ cenv D kb hce hkn hD hL hown i R s2 hR C E' Q' kk
    obtain ⟨out, hout⟩ : ∃ out, outs[i]? = some out := by
      have := (List.getElem?_eq_some_iff.mp hR).1
      exact ⟨outs[i]'(by omega), List.getElem?_eq_getElem _⟩
    refine turn_flat (out := out) hD C (hfo i) (hofl out (List.mem_of_getElem? hout)) (Nat.le_trans (hle i) hosz) (fun base'' kb'' => el _ cenv base'' i R out kb hce hkn kb'' hR hout) E' Q' fun s3 C3 kx3 => kk s3 ?_ kx3
    have e := flatten_take_succ outs i out hout
    exact ⟨C3.same, C3.kp, C3.ns, C3.cells, C3.fv, let ⟨ys, a, j⟩ := C3.acc; ⟨ys, a, by rw [e]; exact j⟩⟩
  · intro s₁ cenv D h' tk ys k1 hD k2 ha hj hL hN
    rw [← hlen, List.take_length] at hj
    obtain ⟨nn, ho⟩ := ha
    exact k _ h' tk _ (k1.tr k2) ⟨D, ys, rfl, (hb.tr k1).none hD, ⟨_, nn, ho, rfl, rfl, rfl⟩, hj⟩ (k1.none hL) hN
end
end Mine
namespace Mine
open PySem PyProof.Rows PySem.Calls

theorem turn2 (elt iter iter2 : Expr) (x x2 : Str) (px px2 pos : Pos) (ifs ifs2 : List Expr) (scope : Scope) (I D : Addr) (cenv : Env) : 
  compTurn (.ListComp elt [⟨.Name x px, iter, ifs, 0⟩, ⟨.Name x2 px2, iter2, ifs2, 0⟩] scope pos) 0 (.ref I) (.ref D) cenv = (standAt iter.pos >>= fun _ => pyNext (.ref I) >>= fun r => match r with
      | none => pure (.done .next)
      | some v => letOwnedTupleGo (.Name x px) (.ref I) v >>= fun _ => assign (.Name x px) cenv v >>= fun _ => testsOf ifs cenv >>= fun ok =>
        if ok = true then eval iter2 cenv >>= fun v => standAt iter2.pos >>= fun _ => foldedSetIterable iter2 cenv v >>= fun v => holding [v] (pyIter v) >>= fun it =>
      runOwn (.compStart (.ListComp elt [⟨.Name x px, iter, ifs, 0⟩, ⟨.Name x2 px2, iter2, ifs2, 0⟩] scope pos) 1 it (.ref D) cenv) cenv >>= fun _ => again (.compLoop (.ListComp elt [⟨.Name x px, iter, ifs, 0⟩, ⟨.Name x2 px2, iter2, ifs2, 0⟩] scope pos) 0 (.ref I) (.ref D) cenv)
        else again (.compLoop (.ListComp elt [⟨.Name x px, iter, ifs, 0⟩, ⟨.Name x2 px2, iter2, ifs2, 0⟩] scope pos) 0 (.ref I) (.ref D) cenv)) := by rfl

section
variable {prog : Program} {w : World} {base : Heap} {A : Around} {E : Value → Shared → Prop} {R : Result → Shared → Prop} {s₁ s : Shared} {env : Env} {D : Addr} {G : List (Str × VP)} {J : Heap → List Value → Prop}

theorem start1 {elt : Expr} {g : Comprehension} {target iter : Expr} {ifs : List Expr} {rest : List Comprehension} {scope : Scope} {pos : Pos} {it acc : Value}
    (h0 : codeAny (model prog w) A (.compLoop (.ListComp elt (g :: ⟨target, iter, ifs, 0⟩ :: rest) scope pos) 1 it acc env) R s)
    (h : wpAny (model prog w) A (pyIter it) (fun it' s' => codeAny (model prog w) A (.compLoop (.ListComp elt (g :: ⟨target, iter, ifs, 0⟩ :: rest) scope pos) 1 it' acc env) R s')
      (notedBy (model prog w) A env fun x s' => R (.error x) s') s) :
    codeAny (model prog w) A (.compStart (.ListComp elt (g :: ⟨target, iter, ifs, 0⟩ :: rest) scope pos) 1 it acc env) R s := by
  refine codeAny_of_tree ?_
  show wpAny _ _ ((compStart (.ListComp elt (g :: ⟨target, iter, ifs, 0⟩ :: rest) scope pos) 1 it acc env).onRaise (fun x => do noteFrame x env; standAt theWindowsPlace)) _ _ s
  refine wpAny_notedAt ?_
  unfold compStart
  show wpAny _ _ (ask >>= _) _ _ s
  refine wpAny_bind (wpAny_askSetting (wpAny_ite ?_))
  split
  · first
      | exact wpAny_bind (wpAny_pure (wpAny_pure (And.intro rfl h0)))
      | exact wpAny_pure (And.intro rfl h0)
  · refine wpAny_bind (wpAny_rule ?_)
    show wpAny _ _ (standAt iter.pos >>= _) _ _ s
    exact wpAny_bind (wpAny_standAt (wpAny_bind (wpAny_mono h (fun it' s' h' => wpAny_pure (And.intro rfl h')) fun _ _ x => x)))

theorem flat_app {a b : List VP} (ha : ∀ P ∈ a, Flat P) (hb : ∀ P ∈ b, Flat P) : ∀ P ∈ a ++ b, Flat P := fun P hP => by
  rcases List.mem_append.mp hP with h | h
  · exact ha P h
  · exact hb P h
/-- what the second clause does -/
def Cl2 (prog : Program) (w : World) (A : Around) (cenv : Env) (base' : Heap) (G : List (Str × VP)) (x2 : Str) (iter2 : Expr) (ifs2 : List Expr) (elt : Expr) (out : List VP) : Prop :=
  ∀ base'', Kp base' base'' → ∃ (P2 : VP) (items2 : List VP) (outs2 : List (List VP)), PE prog w base'' A cenv G iter2 P2 ∧
    (∀ h v mu, P2.p h v → (∀ b ∈ mu, base'.get? b = none ∧ ∃ o, base''.get? b = some o) → It prog w A mu items2 h v) ∧ (∀ R ∈ items2, Flat R) ∧ out = outs2.flatten ∧ outs2.length = items2.length ∧
    ∀ (base3 : Heap) (j : Nat) (R2 : VP) (out2 : List VP), Kp base' base3 → items2[j]? = some R2 → outs2[j]? = some out2 → Tn prog w base3 A cenv ((x2, R2) :: G) ifs2 elt out2

theorem PC.comp2 {elt iter iter2 : Expr} {x x2 : Str} {px px2 pos : Pos} {ifs ifs2 : List Expr} {scope : Scope} {P : VP} (items : List VP) (outs : List (List VP)) (ce : CE env)
    (hsc : ScOk scope) (hi : PE prog w base A env G iter P) (hit : ∀ h v, P.p h v → It prog w A [] items h v) (hfl : ∀ R ∈ items, Flat R)
    (Gf : Heap → List (Str × VP))
    (hGf : ∀ h₁, Kp base h₁ → ∀ y P', (Gf h₁).lookup y = some P' → Flat P' ∧ scope.names.lookup y = some .free ∧ ∃ P, G.lookup y = some P ∧ ∀ v, P.p h₁ v → P'.p h₁ v)
    (hfree : ∀ y, (y, NameKind.free) ∈ scope.names → env.kindOf y ≠ some .local ∧ ∃ P, G.lookup y = some P)
    (hx : scope.names.lookup x = some .local) (hx2 : scope.names.lookup x2 = some .local) (hne : (x2 == x) = false)
    (hlen : outs.length = items.length) (hofl : ∀ o ∈ outs, ∀ P ∈ o, Flat P) (hosz : outs.flatten.length ≤ sizeLine)
    (el : ∀ (base' : Heap) (cenv : Env) (i : Nat) (R : VP) (out : List VP), Kp base base' → CE cenv → Kn cenv scope → items[i]? = some R → outs[i]? = some out →
      ∃ b, (∀ base'', Kp base' base'' → Ts prog w base'' A cenv ((x, R) :: Gf base') ifs b) ∧ (b = true → Cl2 prog w A cenv base' ((x, R) :: Gf base') x2 iter2 ifs2 elt out) ∧ (b = false → out = []))
    (hs : ∀ v, foldedSetIterable iter env v = pure v := by intro _; rfl) (hs2 : ∀ cenv v, foldedSetIterable iter2 cenv v = pure v := by intro _ _; rfl) :
    PC prog w base A env G elt [⟨.Name x px, iter, ifs, 0⟩, ⟨.Name x2 px2, iter2, ifs2, 0⟩] scope pos (vlp base outs.flatten) := by
  intro s Q E use hb hv k
  have hfo : ∀ i, ∀ P ∈ (outs.take i).flatten, Flat P := fun i P hP => by
    obtain ⟨o, ho, hPo⟩ := List.mem_flatten.mp hP
    exact hofl o (List.mem_of_mem_take ho) P hPo
  have hle : ∀ i, (outs.take i).flatten.length ≤ outs.flatten.length := fun i => by
    have e : outs.flatten = (outs.take i).flatten ++ (outs.drop i).flatten := by rw [← List.flatten_append, List.take_append_drop]
    rw [e, List.length_append]; omega
  refine wp_comp (base := base) items ce hb hv hsc hi hit hfl Gf hGf hfree (.inl hx) (fun cenv D => eval iter2 cenv >>= fun v => standAt iter2.pos >>= fun _ => foldedSetIterable iter2 cenv v >>= fun v => holding [v] (pyIter v) >>= fun it =>
      runOwn (.compStart (.ListComp elt [⟨.Name x px, iter, ifs, 0⟩, ⟨.Name x2 px2, iter2, ifs2, 0⟩] scope pos) 1 it (.ref D) cenv) cenv >>= fun _ => pure ()) (by intro cenv I D; rw [turn2]; simp only [bind_assoc, pure_bind]; try rfl)
    (fun _ _ _ i h ys => All2 h ys (outs.take i).flatten) (fun s₁ cenv D i h h' ys hj _ => all2_flat (hfo i) hj) (fun _ _ _ _ => trivial) ?_ ?_ hs
  · intro s₁ cenv D kb hce hkn hD hL hown i R s2 hR C E' Q' kk
    obtain ⟨out, hout⟩ : ∃ out, outs[i]? = some out := by
      have := (List.getElem?_eq_some_iff.mp hR).1
      exact ⟨outs[i]'(by omega), List.getElem?_eq_getElem _⟩
    have e := flatten_take_succ outs i out hout
    have hos := hfo i
    have hofl' := hofl out (List.mem_of_getElem? hout)
    obtain ⟨b, hb, h1, h0⟩ := el s₁.heap cenv i R out kb hce hkn hR hout
    have hJ : Jst (D :: own s₁.heap cenv) (fun h ys => All2 h ys (outs.take i).flatten) := fun h h' ys hj _ => all2_flat hos hj
    refine tests_ok (hb s2.heap C.kp) C.fv.vars fun h3 t3 k3 => ?_
    have C3 := C.up (tk := t3) hJ k3
    cases b with
    | false =>
      simp only [Bool.false_eq_true, if_false]
      have : out = [] := h0 rfl
      subst this
      refine kk _ ⟨C3.same, C3.kp, C3.ns, C3.cells, C3.fv, ?_⟩ k3.kx
      obtain ⟨ys, a, j⟩ := C3.acc
      exact ⟨ys, a, by rw [e]; simpa using j⟩
    | true =>
      simp only [if_true]
      obtain ⟨P2, items2, outs2, hi2, hit2, hfl2, rfl, hlen2, htn⟩ := h1 rfl h3 C3.kp
      refine wpAny_bind (hi2 _ _ _ Kp.rf C3.fv.vars fun v4 h4 t4 k4 p4 => wpAny_bind (wpAny_standAt (wpAny_bind (wpAny_of_eq (hs2 cenv v4) (wpAny_bind (wpAny_holding ?_))))))
      have C4 := C3.up (tk := t4) hJ k4
      have hmu : ∀ b ∈ D :: own s₁.heap cenv, s₁.heap.get? b = none ∧ ∃ o, h3.get? b = some o := by
        intro b hbm
        rcases List.mem_cons.mp hbm with rfl | hbm
        · obtain ⟨ys, ha, _⟩ := C3.acc
          obtain ⟨o, ho, _⟩ := PlainList.isSeq ha
          exact ⟨hD, o, ho⟩
        · refine ⟨own_fresh hL b hbm, ?_⟩
          rcases own_cases hbm with rfl | ⟨y, hy⟩
          · obtain ⟨m, o, es, ep, ho, _⟩ := C3.ns
            exact ⟨o, ho⟩
          · obtain ⟨u, o, ho, _⟩ := C3.cells y b hy
            exact ⟨o, ho⟩
      refine hit2 h4 v4 (D :: own s₁.heap cenv) p4 hmu _ _ _ Kp.rf (fun b hbm => let ⟨_, o, ho⟩ := hmu b hbm; ⟨o, k4 _ _ ho⟩) fun I fp Pi St h5 t5 W st0 hfm hfp hI hfld k5 hitem => ?_
      have C5 := C4.up (tk := t5) hJ k5
      refine wpAny_bind (wpAny_runOwn ?_)
      have hIf : s₁.heap.get? I = none := by
        cases e : s₁.heap.get? I with
        | none => rfl
        | some o => have := C4.kp _ _ e; rw [hI] at this; cases this
      have hfo2 : ∀ i, ∀ P ∈ (outs2.take i).flatten, Flat P := fun i P hP => by
        obtain ⟨o, ho, hPo⟩ := List.mem_flatten.mp hP
        exact hofl' P (List.mem_flatten.mpr ⟨o, List.mem_of_mem_take ho, hPo⟩)
      have hle2 : ∀ i, (outs2.take i).flatten.length ≤ outs2.flatten.length := fun i => by
        have e : outs2.flatten = (outs2.take i).flatten ++ (outs2.drop i).flatten := by rw [← List.flatten_append, List.take_append_drop]
        rw [e, List.length_append]; omega
      have hsz2 : ((outs.take i).flatten ++ outs2.flatten).length ≤ sizeLine := by rw [← e]; exact Nat.le_trans (hle _) hosz
      have hxG : ((x, R) :: Gf s₁.heap).lookup x2 = none := by
        rw [List.lookup_cons, hne]
        cases e : (Gf s₁.heap).lookup x2 with
        | none => rfl
        | some P' =>
          obtain ⟨_, hfr, _⟩ := hGf _ kb x2 P' e
          rw [hx2] at hfr; cases hfr
      have loop : codeAny (model prog w) A (.compLoop (.ListComp elt [⟨.Name x px, iter, ifs, 0⟩, ⟨.Name x2 px2, iter2, ifs2, 0⟩] scope pos) 1 (.ref I) (.ref D) cenv)
          (fun r s' => match r with | .ok f => wpAny (model prog w) A (pure () : Sem Unit) (fun _ s'' => Q' s'') E' s' | .error e => cameBackBy (model prog w) A cenv E' e s') { s2 with heap := h5, toks := t5 } := by
        refine comp_loop (elt := elt) (gens := [⟨.Name x px, iter, ifs, 0⟩, ⟨.Name x2 px2, iter2, ifs2, 0⟩]) (scope := scope) (pos := pos) (d := 1) (s₁ := s₁) (JJ := fun j h ys => All2 h ys ((outs.take i).flatten ++ (outs2.take j).flatten)) (items := items2) (fp := fp) (x := x2) (px := px2) (p := iter2.pos) (ifs := ifs2)
          (emit := eval elt cenv >>= fun v => call (.builtin "list.append") [.ref D, v] >>= fun _ => pure ()) (by rfl) hce hD hL hIf (.inl (hkn.s hx2 (by decide))) hxG W st0 hfm hfld
          (fun j v hPv => ?_) (fun j h h' ys hj _ => all2_flat (flat_app hos (hfo2 j)) hj) (by simpa using C5) ?_ ?_
        · obtain ⟨R2, hR2, hp⟩ := hitem j v hPv
          exact ⟨R2, hR2, hfl2 R2 (List.mem_of_getElem? hR2), _, hp⟩
        · intro j R2 s6 hR2 C6 E6 Q6 k6
          obtain ⟨out2, hout2⟩ : ∃ out2, outs2[j]? = some out2 := by
            have := (List.getElem?_eq_some_iff.mp hR2).1
            exact ⟨outs2[j]'(by omega), List.getElem?_eq_getElem _⟩
          have e2 := flatten_take_succ outs2 j out2 hout2
          refine turn_flat (out := out2) hD C6 (flat_app hos (hfo2 j)) (fun P hP => hofl' P (List.mem_flatten.mpr ⟨out2, List.mem_of_getElem? hout2, hP⟩)) ?_
            (fun base'' kb'' => htn base'' j R2 out2 kb'' hR2 hout2) E6 Q6 fun s7 C7 kx7 => k6 s7 ?_ kx7
          · refine Nat.le_trans ?_ hsz2
            simp only [List.length_append]
            have := hle2 j; omega
          · exact ⟨C7.same, C7.kp, C7.ns, C7.cells, C7.fv, let ⟨ys, a, jj⟩ := C7.acc; ⟨ys, a, by rw [e2, ← List.append_assoc]; exact jj⟩⟩
        · intro s7 C7 kx7
          refine wpAny_pure (kk _ ?_ ?_)
          · refine ⟨C7.same, C7.kp, C7.ns, C7.cells, C7.fv, ?_⟩
            obtain ⟨ys, a, jj⟩ := C7.acc
            refine ⟨ys, a, ?_⟩
            rw [← hlen2, List.take_length] at jj
            rw [e]; exact jj
          · intro b o hbm eb
            refine kx7 b o (fun hm => ?_) (k5 _ _ (k4 _ _ (k3 _ _ eb)))
            rcases List.mem_cons.mp hm with rfl | hm
            · have := k4 _ _ (k3 _ _ eb); rw [hI] at this; cases this
            · exact hbm hm
      exact start1 loop (W.self 0 _ _ _ st0 loop)
  · intro s₁ cenv D h' tk ys k1 hD k2 ha hj hL hN
    rw [← hlen, List.take_length] at hj
    obtain ⟨nn, ho⟩ := ha
    exact k _ h' tk _ (k1.tr k2) ⟨D, ys, rfl, (hb.tr k1).none hD, ⟨_, nn, ho, rfl, rfl, rfl⟩, hj⟩ (k1.none hL) hN
end
end Mine
namespace Mine
open PySem PyProof.Rows PySem.Calls PySem.Builtin.Str PySem.SeqAt

section
variable {prog : Program} {w : World} {base : Heap} {A : Around} {env : Env} {G : List (Str × VP)}

theorem PE.index {o e : Expr} {apos pos : Pos} {l : List Nat} {c i : Nat} {rest : List Nat} (ho : PE prog w base A env G o (vs (S l))) (he : PE prog w base A env G e (vs (S [c])))
    (hoc : occurrences (S l) (S [c]) 0 (S l).length 1 = i :: rest)
    (hbase : attributeBase o "index" env (eval o env) = eval o env) (hline : (apos.endLine == pos.line) = true) (hs : starEach [e] env = [(false, eval e env)]) :
    PE prog w base A env G (.Call (.Attribute o "index" apos) [e] [] pos) (vi i) := by
  intro s Q E hb hv k
  refine Call_method1 hbase hs hline (ho s _ E hb hv fun v h1 t1 k1 p1 => ?_)
  obtain ⟨t, rfl⟩ := p1
  refine SB.index (he _ _ E (hb.tr k1) (hv.up k1) fun v2 h2 t2 k2 p2 => ?_)
  obtain ⟨u, rfl⟩ := p2
  exact ⟨S [c], u, rfl, i, rest, hoc, k _ h2 _ (k1.tr k2) ⟨_, rfl⟩⟩

theorem do_len_l {Ps : List VP} (hz : Ps.length < 2 ^ 62) : Does prog w base A (.builtin "len") [vl Ps] (vi Ps.length) := by
  intro s us Q E hb x k
  rcases us with _ | ⟨u, _ | ⟨_, _⟩⟩
  · exact x.elim
  · obtain ⟨⟨a, us', rfl, hl, hx⟩, _⟩ := x
    have hlen := hx.length
    refine Calls.call_len_list hl ?_ ?_
    · simp only [List.size_toArray]; omega
    · simp only [List.size_toArray, hlen]
      exact k _ s.heap _ Kp.rf ⟨_, rfl⟩
  · exact x.2.elim

theorem intsAre_of {h : Heap} : ∀ {us : List Value} {ns : List Int}, All2 h us (ns.map vi) → ∃ ts : List Tok, us = (ns.zip ts).map (fun p => Value.int p.1 p.2) ∧ ts.length = ns.length
  | [], [], _ => ⟨[], rfl, rfl⟩
  | _ :: us, n :: ns, ⟨⟨t, e⟩, r⟩ => by
    obtain ⟨ts, h1, h2⟩ := intsAre_of r
    exact ⟨t :: ts, by simp [e, h1], by simp [h2]⟩

theorem do_sum {ns : List Int} (hh : A.handled = none) : Does prog w base A (.builtin "sum") [vl (ns.map vi)] (vi ns.sum) := by
  intro s us Q E hb x k
  rcases us with _ | ⟨u, _ | ⟨_, _⟩⟩
  · exact x.elim
  · obtain ⟨⟨a, us', rfl, hl, hx⟩, _⟩ := x
    obtain ⟨ts, e, hlen⟩ := intsAre_of hx
    have e2 : us'.toArray = intItems (ns.zip ts).toArray := by rw [e]; simp [intItems]
    rw [e2] at hl
    refine sum_intListG hh hl fun h' tk t' hk => k _ h' tk hk ⟨t', ?_⟩
    rw [preSum_eq, List.take_of_length_le (by simp)]
    congr 2
    simp [List.map_fst_zip, hlen]
  · exact x.2.elim

theorem strs_of {h : Heap} : ∀ {us : List Value} {ls : List (List Nat)}, All2 h us (ls.map fun l => vs (S l)) → ∃ p : List (Str × Tok), us = strValues p ∧ p.map (·.1) = ls.map S
  | [], [], _ => ⟨[], rfl, rfl⟩
  | _ :: us, n :: ns, ⟨⟨t, e⟩, r⟩ => by
    obtain ⟨ts, h1, h2⟩ := strs_of r
    exact ⟨(S n, t) :: ts, by simp [e, h1, strValues], by simp [h2]⟩

theorem join_empty : ∀ ls : List (List Nat), Str.join (S []) (ls.map S) = S ls.flatten
  | [] => rfl
  | [a] => by simp [Str.join]
  | a :: b :: r => by
    have ih := join_empty (b :: r)
    simp only [List.map_cons] at ih
    show S a ++ S [] ++ Str.join (S []) (S b :: r.map S) = _
    rw [ih, S_app, S_app]; simp

theorem PE.join {o e : Expr} {apos pos : Pos} {ls : List (List Nat)} (ho : PE prog w base A env G o (vs (S []))) (he : PE prog w base A env G e (vl (ls.map fun l => vs (S l))))
    (hw : (ls.map (·.length)).sum ≤ 16777216)
    (hbase : attributeBase o "join" env (eval o env) = eval o env) (hline : (apos.endLine == pos.line) = true) (hs : starEach [e] env = [(false, eval e env)]) :
    PE prog w base A env G (.Call (.Attribute o "join" apos) [e] [] pos) (vs (S ls.flatten)) := by
  intro s Q E hb hv k
  refine Call_method1 hbase hs hline (ho s _ E hb hv fun v h1 t1 k1 p1 => ?_)
  obtain ⟨t, rfl⟩ := p1
  refine SB.join (he _ _ E (hb.tr k1) (hv.up k1) fun v2 h2 t2 k2 p2 => ?_)
  obtain ⟨a, us, rfl, hl, hx⟩ := p2
  obtain ⟨p, rfl, e2⟩ := strs_of hx
  refine ⟨a, p, rfl, hl, _, e2, joinOk_of ?_, fun t' tk => ?_⟩
  · have : ((ls.map S).map (·.length)) = ls.map (·.length) := by simp [Function.comp_def, S_len]
    rw [this, S_len]; simpa using hw
  · have : Txt.join (S []) (ls.map S) = S ls.flatten := by
      show glued _ _ = _
      rw [StrLaws.glued_eq_join, join_empty]
    rw [this]
    exact k _ h2 tk (k1.tr k2) ⟨_, rfl⟩

/-! slices of lists -/
def cutL {α : Type} (l : List α) (lo hi : Option Int) : List α := (l.drop (clipN l.length lo 0)).take (clipN l.length hi l.length - clipN l.length lo 0)
theorem slicePick_eq (us : List Value) (lo hi : Option Int) : slicePick us.toArray lo hi none = (cutL us lo hi).toArray := by
  unfold slicePick
  have e1 : (sliceBounds lo hi none us.toArray.size).1 = (clipN us.length lo 0 : Int) := by
    unfold sliceBounds clipN
    cases lo with
    | none => simp
    | some i => simp only [Option.getD_none, gt_iff_lt, Int.zero_lt_one, if_true]; simp only [List.size_toArray]; omega
  have e2 : (sliceBounds lo hi none us.toArray.size).2.1 = (clipN us.length hi us.length : Int) := by
    unfold sliceBounds clipN
    cases hi with
    | none => simp
    | some i => simp only [Option.getD_none, gt_iff_lt, Int.zero_lt_one, if_true]; simp only [List.size_toArray]; omega
  have e3 : (sliceBounds lo hi none us.toArray.size).2.2 = 1 := rfl
  rw [e1, e2, e3, sliceRange_one, pick_run]
  rfl
theorem All2.drop {h : Heap} : ∀ {us : List Value} {Ps : List VP} (n : Nat), All2 h us Ps → All2 h (us.drop n) (Ps.drop n)
  | us, Ps, 0, x => x
  | [], [], _ + 1, _ => trivial
  | _ :: _, _ :: _, n + 1, ⟨_, r⟩ => All2.drop n r
theorem All2.take {h : Heap} : ∀ {us : List Value} {Ps : List VP} (n : Nat), All2 h us Ps → All2 h (us.take n) (Ps.take n)
  | us, Ps, 0, x => by simp [All2]
  | [], [], _ + 1, _ => trivial
  | _ :: _, _ :: _, n + 1, ⟨p, r⟩ => ⟨p, All2.take n r⟩

theorem isPart_of {o : Option Int} {v : Value} (h : match o with | none => v = .none | some i => ∃ t, v = .int i t) : IsPart v o := by
  cases o with
  | none => rw [h]; exact .none
  | some i => obtain ⟨t, rfl⟩ := h; exact .int i t

theorem PE.lsl {value : Expr} {lower upper : Option Expr} {p pos : Pos} {Ps : List VP} {lo hi : Option Int} (hz : Ps.length ≤ sizeLine) (hv : PE prog w base A env G value (vl Ps))
    (hlo : PO prog w base A env G lower lo) (hhi : PO prog w base A env G upper hi) (ht : ∀ o r, letTemporaryGo value o r = pure ()) :
    PE prog w base A env G (.Subscript value (.Slice lower upper none p) pos) (vl (cutL Ps lo hi)) := by
  intro s Q E hb hV k
  refine wpAny_Subscript_list_slice (hv s _ E hb hV fun v h1 t1 k1 p1 => ?_) ht
  refine hlo _ _ E (hb.tr k1) (hV.up k1) fun v2 h2 t2 k2 p2 => ?_
  refine hhi _ _ E (hb.tr (k1.tr k2)) (hV.up (k1.tr k2)) fun v3 h3 t3 k3 p3 => ?_
  obtain ⟨a, us, rfl, hl, hx⟩ := p1
  have k23 := k2.tr k3
  refine ⟨a, us.toArray, lo, hi, rfl, isList_ks k23.ks hl, by simpa [hx.length] using hz, isPart_of p2, isPart_of p3, ?_⟩
  rw [slicePick_eq]
  refine k _ _ t3 (k1.tr (k23.tr ((Kp.push _ _).tr (Kp.push _ _)))) ⟨_, cutL us lo hi, rfl, ⟨{ cls := .type "list", data := .seq (cutL us lo hi).toArray }, ?_, rfl, 0, rfl⟩, ?_⟩
  · have e1 := Heap.get?_push_size (h3.push { cls := .type "slice", data := .fields #[v2, v3, .none] }) (o := { cls := .type "list", data := .seq (cutL us lo hi).toArray }) rfl
    rw [Heap.size_push] at e1
    exact e1
  · have : cutL us lo hi = (us.drop (clipN Ps.length lo 0)).take (clipN Ps.length hi Ps.length - clipN Ps.length lo 0) := by unfold cutL; rw [hx.length]
    rw [this]
    exact ((hx.up (k23.tr ((Kp.push _ _).tr (Kp.push _ _)))).drop _).take _

/-! lists compared -/
theorem oc_eqnil {Ps : List VP} (hu : A.units < cLine) : OpC prog w base A .Eq (vl Ps) (vl []) Ps.isEmpty := by
  rintro s _ _ Q E hb ⟨a, us, rfl, hl, hx⟩ ⟨a', us', rfl, hl', hx'⟩ k
  have e' : us' = [] := List.eq_nil_of_length_eq_zero hx'.length
  subst e'
  cases Ps with
  | nil =>
    have e : us = [] := List.eq_nil_of_length_eq_zero hx.length
    subst e
    exact eq_listAt (e := fun _ => true) hl hl' rfl hu (fun j h1 h2 => absurd h1 (by simp)) (k _ s.heap s.toks Kp.rf rfl)
  | cons P Ps =>
    refine eq_list_lengthsAt hl hl' ?_ hu (k _ s.heap s.toks Kp.rf rfl)
    have := hx.length
    simp at this
    simp [this]
theorem oc_nenil {Ps : List VP} (hu : A.units < cLine) : OpC prog w base A .NotEq (vl Ps) (vl []) (!Ps.isEmpty) := by
  rintro s _ _ Q E hb ⟨a, us, rfl, hl, hx⟩ ⟨a', us', rfl, hl', hx'⟩ k
  have e' : us' = [] := List.eq_nil_of_length_eq_zero hx'.length
  subst e'
  cases Ps with
  | nil =>
    have e : us = [] := List.eq_nil_of_length_eq_zero hx.length
    subst e
    exact RcNeAt.lists (e := fun _ => true) hl hl' rfl hu (fun j h1 h2 => absurd h1 (by simp)) prog w E Q (k _ s.heap s.toks Kp.rf rfl)
  | cons P Ps =>
    refine RcNeAt.lists_lengths hl hl' ?_ hu prog w E Q (k _ s.heap s.toks Kp.rf rfl)
    have := hx.length
    simp at this
    simp [this]
theorem oc_neints {xs ys : List Int} (hu : A.units < cLine) (hlen : xs.length = ys.length) : OpC prog w base A .NotEq (vl (xs.map vi)) (vl (ys.map vi)) (xs != ys) := by
  rintro s _ _ Q E hb ⟨a, us, rfl, hl, hx⟩ ⟨a', us', rfl, hl', hx'⟩ k
  have l1 := hx.length
  have l2 := hx'.length
  simp at l1 l2
  refine RcNeAt.lists (e := fun j => xs.getD j 0 == ys.getD j 0) hl hl' (by simp; omega) hu (fun j h1 h2 => ?_) prog w E Q ?_
  · simp at h1 h2
    have hj1 : j < xs.length := by omega
    have hj2 : j < ys.length := by omega
    obtain ⟨v, e1, p1⟩ := hx.get' (i := j) (P := vi xs[j]) (by simp [hj1])
    obtain ⟨v', e2, p2⟩ := hx'.get' (i := j) (P := vi ys[j]) (by simp [hj2])
    obtain ⟨t, rfl⟩ := p1
    obtain ⟨u, rfl⟩ := p2
    have g1 : us.toArray[j] = Value.int xs[j] t := by
      have := (List.getElem?_eq_some_iff.mp e1).2; simpa using this
    have g2 : us'.toArray[j] = Value.int ys[j] u := by
      have := (List.getElem?_eq_some_iff.mp e2).2; simpa using this
    rw [g1, g2]
    have : (xs.getD j 0 == ys.getD j 0) = (xs[j] == ys[j]) := by simp [List.getD, hj1, hj2]
    rw [this]
    exact EqAt.int_int _ _ _ _
  · have : (!(List.range us.toArray.size).all fun j => xs.getD j 0 == ys.getD j 0) = (xs != ys) := by
      rw [Bool.eq_iff_iff, bne_iff_ne, Bool.not_eq_true']
      rw [← Bool.not_eq_true, List.all_eq_true]
      simp only [List.mem_range, List.size_toArray, l1, beq_iff_eq]
      constructor
      · intro h e; subst e; exact h fun _ _ => rfl
      · intro h h'
        refine h (List.ext_getElem hlen fun i h1 h2 => ?_)
        have := h' i h1
        simpa [List.getD, h1, h2] using this
    rw [this]
    exact k _ s.heap s.toks Kp.rf rfl

theorem do_min3 {a b c : Int} (hh : A.handled = none) : Does prog w base A (.builtin "min") [vi a, vi b, vi c] (vi (min a (min b c))) := by
  intro s us Q E hb x k
  match us, x with
  | [_, _, _], ⟨⟨t, rfl⟩, ⟨u, rfl⟩, ⟨y, rfl⟩, _⟩ =>
    refine min_three_ints hh fun h' tk hk => ?_
    refine k _ h' tk hk ?_
    split <;> split
    · exact ⟨y, by congr 1; omega⟩
    · exact ⟨u, by congr 1; omega⟩
    · exact ⟨y, by congr 1; omega⟩
    · exact ⟨t, by congr 1; omega⟩
end
end Mine
namespace Mine
open PySem PyProof.Rows PySem.Calls

/-- a kind of list -/
structure ZOk (Z : Heap → Addr → Array Value → Prop) : Prop where
  keep : ∀ h h' a us, (∀ o, h.get? a = some o → h'.get? a = some o) → Z h a us → Z h' a us
  isl : ∀ h a us, Z h a us → h.IsList a us
theorem zok_isList : ZOk Heap.IsList := ⟨fun _ _ _ _ k ⟨o, e, r⟩ => ⟨o, k o e, r⟩, fun _ _ _ x => x⟩
theorem zok_plainL : ZOk PlainL := ⟨fun _ _ _ _ k ⟨o, n, e, r⟩ => ⟨o, n, k o e, r⟩, fun _ _ _ x => x.isList⟩
theorem ZOk.ks {Z : Heap → Addr → Array Value → Prop} (z : ZOk Z) {h h' : Heap} {a : Addr} {us : Array Value} (k : Ks h h') (x : Z h a us) : Z h' a us := by
  obtain ⟨o, ho, hc, n, hd⟩ := z.isl _ _ _ x
  refine z.keep _ _ _ _ (fun o' e => ?_) x
  rw [ho] at e; cases e
  exact k a o ho (by simp [isSeq, hd])
theorem ZOk.some {Z : Heap → Addr → Array Value → Prop} (z : ZOk Z) {h : Heap} {a : Addr} {us : Array Value} (x : Z h a us) : ∃ o, h.get? a = some o ∧ isSeq o = true := by
  obtain ⟨o, ho, hc, n, hd⟩ := z.isl _ _ _ x
  exact ⟨o, ho, by simp [isSeq, hd]⟩

/-- a list of lists; all of them new since h₀ -/
structure LL (Z : Heap → Addr → Array Value → Prop) (h₀ h : Heap) (R : Addr) (rs : List Addr) (rows : List (List VP)) : Prop where
  top : Z h R (rs.map Value.ref).toArray
  out : R ∉ rs
  nd : rs.Nodup
  new : ∀ r ∈ R :: rs, h₀.get? r = none
  len : rs.length = rows.length
  row : ∀ (i : Nat) (r : Addr) (Ps : List VP), rs[i]? = some r → rows[i]? = some Ps → ∃ us : List Value, Z h r us.toArray ∧ All2 h us Ps
  flat : ∀ Ps ∈ rows, ∀ P ∈ Ps, Flat P

section
variable {Z : Heap → Addr → Array Value → Prop} {h₀ h h' : Heap} {R : Addr} {rs : List Addr} {rows : List (List VP)}

theorem LL.rowAt (L : LL Z h₀ h R rs rows) {i : Nat} {r : Addr} (hi : rs[i]? = some r) : ∃ Ps us, rows[i]? = some Ps ∧ Z h r (List.toArray us) ∧ All2 h us Ps := by
  have hl := (List.getElem?_eq_some_iff.mp hi).1
  have hl' : i < rows.length := by rw [← L.len]; exact hl
  obtain ⟨us, a, b⟩ := L.row i r rows[i] hi (List.getElem?_eq_getElem hl')
  exact ⟨_, us, List.getElem?_eq_getElem hl', a, b⟩
theorem LL.has (z : ZOk Z) (L : LL Z h₀ h R rs rows) : ∀ r ∈ R :: rs, ∃ o, h.get? r = some o ∧ isSeq o = true := by
  intro r hr
  rcases List.mem_cons.mp hr with rfl | hr
  · exact z.some L.top
  · obtain ⟨i, hi⟩ := List.getElem?_of_mem hr
    obtain ⟨Ps, us, _, a, _⟩ := L.rowAt hi
    exact z.some a
theorem LL.ks (z : ZOk Z) (L : LL Z h₀ h R rs rows) (k : Ks h h') : LL Z h₀ h' R rs rows :=
  ⟨z.ks k L.top, L.out, L.nd, L.new, L.len, fun i r Ps e1 e2 => let ⟨us, a, b⟩ := L.row i r Ps e1 e2; ⟨us, z.ks k a, all2_flat (L.flat Ps (List.mem_of_getElem? e2)) b⟩, L.flat⟩
theorem LL.mono (L : LL Z h₀ h R rs rows) {h₁ : Heap} (k : Kp h₁ h₀) : LL Z h₁ h R rs rows :=
  ⟨L.top, L.out, L.nd, (fun r hr => Kp.none k (L.new r hr)), L.len, L.row, L.flat⟩
theorem LL.vr (z : ZOk Z) (L : LL Z h₀ h R rs rows) : (vl (rs.map Mine.vr)).p h (.ref R) := by
  refine ⟨R, rs.map Value.ref, rfl, z.isl _ _ _ L.top, ?_⟩
  have : ∀ l : List Addr, All2 h (l.map Value.ref) (l.map Mine.vr) := by
    intro l
    induction l with
    | nil => trivial
    | cons a l ih => exact ⟨rfl, ih⟩
  exact this rs
theorem LL.vl (z : ZOk Z) (L : LL Z h₀ h R rs rows) : (Mine.vl (rows.map Mine.vl)).p h (.ref R) := by
  refine ⟨R, rs.map Value.ref, rfl, z.isl _ _ _ L.top, All2.of_get (by simp [L.len]) fun i v P e1 e2 => ?_⟩
  rw [List.getElem?_map] at e1 e2
  obtain ⟨r, hr, rfl⟩ := Option.map_eq_some_iff.mp e1
  obtain ⟨Ps, hP, rfl⟩ := Option.map_eq_some_iff.mp e2
  obtain ⟨us, a, b⟩ := L.row i r Ps hr hP
  exact ⟨r, us, rfl, z.isl _ _ _ a, b⟩

/-- a row changes -/
theorem LL.upd (z : ZOk Z) (L : LL Z h₀ h R rs rows) {i : Nat} {r : Addr} {us : List Value} {Ps : List VP} (hi : rs[i]? = some r) (hs : KX [r] h h') (hz : Z h' r us.toArray) (hx : All2 h' us Ps) (hf : ∀ P ∈ Ps, Flat P) :
    LL Z h₀ h' R rs (rows.set i Ps) := by
  have hk : ∀ a, a ≠ r → ∀ o, h.get? a = some o → h'.get? a = some o := fun a ha o e => hs a o (by simpa using ha) e
  have hRr : R ≠ r := fun e => L.out (e ▸ List.mem_of_getElem? hi)
  refine ⟨z.keep _ _ _ _ (hk R hRr) L.top, L.out, L.nd, L.new, by simp [L.len], fun j r' Ps' e1 e2 => ?_, fun Ps' hP => ?_⟩
  · by_cases hij : i = j
    · subst hij
      rw [hi] at e1; cases e1
      have hl : i < rows.length := by rw [← L.len]; exact (List.getElem?_eq_some_iff.mp hi).1
      rw [List.getElem?_set_self hl] at e2
      cases e2
      exact ⟨us, hz, hx⟩
    · rw [List.getElem?_set_ne hij] at e2
      obtain ⟨us', a, b⟩ := L.row j r' Ps' e1 e2
      have hne : r' ≠ r := by
        rintro rfl
        have h1 := List.getElem?_eq_some_iff.mp e1
        have h2 := List.getElem?_eq_some_iff.mp hi
        obtain ⟨q1, w1⟩ := h1
        obtain ⟨q2, w2⟩ := h2
        rcases Nat.lt_or_gt_of_ne hij with hlt | hlt
        · exact List.pairwise_iff_getElem.mp L.nd i j q2 q1 hlt (w2.trans w1.symm)
        · exact List.pairwise_iff_getElem.mp L.nd j i q1 q2 hlt (w1.trans w2.symm)
      exact ⟨us', z.keep _ _ _ _ (hk r' hne) a, all2_flat (L.flat Ps' (List.mem_of_getElem? e2)) b⟩
  · rcases List.mem_or_eq_of_mem_set hP with h1 | h1
    · exact L.flat Ps' h1
    · subst h1; exact hf

/-- one row more -/
theorem LL.app (z : ZOk Z) (L : LL Z h₀ h R rs rows) {r : Addr} {us : List Value} {Ps : List VP} (hr : ∀ q ∈ R :: rs, q ≠ r) (hn : h₀.get? r = none) (hs : KX [R] h h') (hz : Z h r us.toArray) (hx : All2 h us Ps) (hf : ∀ P ∈ Ps, Flat P)
    (ht : Z h' R ((rs.map Value.ref) ++ [Value.ref r]).toArray) : LL Z h₀ h' R (rs ++ [r]) (rows ++ [Ps]) := by
  have hk : ∀ a, a ≠ R → ∀ o, h.get? a = some o → h'.get? a = some o := fun a ha o e => hs a o (by simpa using ha) e
  have hrn : r ∉ rs := fun q => hr r (List.mem_cons_of_mem _ q) rfl
  refine ⟨by simpa using ht, ?_, ?_, ?_, by simp [L.len], fun j r' Ps' e1 e2 => ?_, fun Ps' hP => ?_⟩
  · intro q
    rcases List.mem_append.mp q with q | q
    · exact L.out q
    · exact hr R List.mem_cons_self (by simpa using q)
  · rw [List.nodup_append]
    refine ⟨L.nd, by simp, fun a ha b hb e => ?_⟩
    have : b = r := by simpa using hb
    exact hrn (this ▸ e ▸ ha)
  · intro q hq
    rcases List.mem_cons.mp hq with rfl | hq
    · exact L.new _ List.mem_cons_self
    · rcases List.mem_append.mp hq with hq | hq
      · exact L.new _ (List.mem_cons_of_mem _ hq)
      · have : q = r := by simpa using hq
        exact this ▸ hn
  · by_cases hj : j < rs.length
    · rw [List.getElem?_append_left hj] at e1
      rw [List.getElem?_append_left (by rw [← L.len]; exact hj)] at e2
      obtain ⟨us', a, b⟩ := L.row j r' Ps' e1 e2
      have hne : r' ≠ R := by rintro rfl; exact L.out (List.mem_of_getElem? e1)
      exact ⟨us', z.keep _ _ _ _ (hk r' hne) a, all2_flat (L.flat Ps' (List.mem_of_getElem? e2)) b⟩
    · have hj' : j = rs.length := by
        have := (List.getElem?_eq_some_iff.mp e1).1
        simp at this; omega
      subst hj'
      rw [List.getElem?_append_right (Nat.le_refl _)] at e1
      rw [List.getElem?_append_right (by rw [L.len]; exact Nat.le_refl _)] at e2
      rw [L.len] at e2
      simp at e1 e2
      subst e1 e2
      exact ⟨us, z.keep _ _ _ _ (hk r (Ne.symm (hr R List.mem_cons_self))) hz, all2_flat hf hx⟩
  · rcases List.mem_append.mp hP with hP | hP
    · exact L.flat Ps' hP
    · have : Ps' = Ps := by simpa using hP
      exact this ▸ hf
end

/-- a new list of lists -/
def vll (Z : Heap → Addr → Array Value → Prop) (z : ZOk Z) (h₀ : Heap) (rows : List (List VP)) : VP := ⟨fun h v => ∃ R rs, v = .ref R ∧ LL Z h₀ h R rs rows, fun _ _ _ k ⟨R, rs, e, L⟩ => ⟨R, rs, e, L.ks z k.ks⟩⟩
theorem sq_vll {Z : Heap → Addr → Array Value → Prop} {z : ZOk Z} {h₀ : Heap} {rows : List (List VP)} : Sq (vll Z z h₀ rows) := fun _ _ _ k ⟨R, rs, e, L⟩ => ⟨R, rs, e, L.ks z k⟩

section
variable {prog : Program} {w : World} {base : Heap} {A : Around} {E : Value → Shared → Prop} {s₀ s : Shared} {env : Env} {G : List (Str × VP)}

theorem PE.listP {elts : List Expr} {pos : Pos} {Ps : List VP} (h : PA prog w base A env G pos elts Ps) (hz : Ps.length ≤ sizeLine) : PE prog w base A env G (.List elts pos) (vlp base Ps) := by
  intro s Q E hb hv k
  refine List_ (h.2 s _ E hb hv fun us h1 t1 k1 x => ?_)
  refine wpAny_newObj_type (k _ _ _ (k1.tr (Kp.push _ _)) ⟨_, us, rfl, (hb.tr k1).none_of, ⟨_, _, Heap.get?_push_size _ rfl, rfl, rfl, rfl⟩, x.up (Kp.push _ _)⟩) ?_
  show us.toArray.size ≤ sizeLine
  rw [List.size_toArray, x.length]; exact hz

theorem Fs.ce (F : Fs s₀ env G s) (fe : FEnv env) : CE env := by
  obtain ⟨m, cm, ic, hv⟩ := F.ic
  exact ⟨fe.toEnvOk, fun x y c h1 h2 => name_of_addr ic.apart (mem_of_lookup h1) (mem_of_lookup h2)⟩

theorem ex_append {o e : Expr} {apos pos p : Pos} {rest : List Stmt} {P : VP} {r : Addr} {us : List Value} {Q : Flow → Shared → Prop} (fe : FEnv env) (hb : Kp base s.heap) (F : Fs s₀ env G s)
    (hf : ∀ x P, G.lookup x = some P → Flat P) (ho : PE prog w base A env G o (vr r)) (he : PE prog w base A env G e P) (hl : PlainL s.heap r us.toArray) (hr : s₀.heap.get? r = none) (hsz : us.length ≤ sizeLine)
    (hbase : attributeBase o "append" env (eval o env) = eval o env) (hline : (apos.endLine == pos.line) = true) (hst : starEach [e] env = [(false, eval e env)])
    (hs : swapsWith (.Call (.Attribute o "append" apos) [e] [] pos) none p.line env = pure false)
    (kk : ∀ v h1 h' tk, Kp s.heap h1 → P.p h1 v → KX [r] h1 h' → PlainL h' r (us ++ [v]).toArray → Fs s₀ env G { s with heap := h', toks := tk } → wpAny (model prog w) A (execs rest env) Q E { s with heap := h', toks := tk }) :
    wpAny (model prog w) A (execs (.Expr (.Call (.Attribute o "append" apos) [e] [] pos) p :: rest) env) Q E s := by
  refine wpAny_execs_cons (wpAny_Expr_any (wpAny_Call_append hbase (by rw [hst]; rfl) hline (by rw [hst]; rfl) (ho s _ E hb (F.vars fe) fun ov h1 t1 k1 p1 => ?_)) ?_ hs)
  · have e1 : ov = .ref r := p1
    subst e1
    refine ⟨r, us.toArray, rfl, hl.keeps k1, he _ _ E (hb.tr k1) ((F.vars fe).up k1) fun v h2 t2 k2 p2 => ?_⟩
    have hl2 := hl.keeps (k1.tr k2)
    refine list_append_plainL hl2 (fun h' hl' hs' => ?_) (by simpa using hsz)
    obtain ⟨ol, nn, hol, _, _, hod⟩ := id hl2
    have F4 := (F.up (tk := t2) (k1.tr k2)).mutd (tk := t2) hf hs' hr ⟨ol, hol, by simp [isSeq, hod]⟩
    exact kk v h2 h' t2 (k1.tr k2) p2 (fun b o hb e => (hs'.2 b (fun q => hb (q ▸ List.mem_cons_self))).trans e) (by simpa using hl') F4
  · unfold interactive
    have : env.scope.kind = .function := fe.k
    rw [this]; rfl

def JLL (rows : List (List VP)) (s₁ : Shared) (cenv : Env) (D : Addr) (i : Nat) (h : Heap) (ys : List Value) : Prop :=
  ∃ rs : List Addr, ys = rs.map Value.ref ∧ rs.length = i ∧ rs.Nodup ∧ (∀ r ∈ rs, r ∉ D :: own s₁.heap cenv ∧ s₁.heap.get? r = none) ∧ ∀ (j : Nat) (r : Addr) (Ps : List VP), rs[j]? = some r → rows[j]? = some Ps → ∃ us : List Value, h.IsList r us.toArray ∧ All2 h us Ps
theorem jst_ll {rows : List (List VP)} (hofl : ∀ o ∈ rows, ∀ P ∈ o, Flat P) (s₁ : Shared) (cenv : Env) (D : Addr) (i : Nat) : Jst (D :: own s₁.heap cenv) (JLL rows s₁ cenv D i) := by
  rintro h h' ys ⟨rs, e1, e2, e3, e4, e5⟩ km
  refine ⟨rs, e1, e2, e3, e4, fun j r Ps g1 g2 => ?_⟩
  obtain ⟨us, ⟨o, a, c, n, d⟩, b⟩ := e5 j r Ps g1 g2
  exact ⟨us, ⟨o, km r o (e4 r (List.mem_of_getElem? g1)).1 a (fun vs e => by rw [d] at e; cases e), c, n, d⟩, all2_flat (hofl Ps (List.mem_of_getElem? g2)) b⟩
/-- a comprehension whose items are new lists -/
theorem PC.compLL {elt iter : Expr} {x : Str} {px pos : Pos} {scope : Scope} {P : VP} (items : List VP) (rows : List (List VP)) (ce : CE env)
    (hsc : ScOk scope) (hi : PE prog w base A env G iter P) (hit : ∀ h v, P.p h v → It prog w A [] items h v) (hfl : ∀ R ∈ items, Flat R)
    (Gf : Heap → List (Str × VP))
    (hGf : ∀ h₁, Kp base h₁ → ∀ y P', (Gf h₁).lookup y = some P' → Flat P' ∧ scope.names.lookup y = some .free ∧ ∃ P, G.lookup y = some P ∧ ∀ v, P.p h₁ v → P'.p h₁ v)
    (hfree : ∀ y, (y, NameKind.free) ∈ scope.names → env.kindOf y ≠ some .local ∧ ∃ P, G.lookup y = some P)
    (hx : scope.names.lookup x = some .local ∨ scope.names.lookup x = some .cell)
    (hlen : rows.length = items.length) (hofl : ∀ o ∈ rows, ∀ P ∈ o, Flat P) (hosz : rows.length ≤ sizeLine)
    (el : ∀ (base' : Heap) (cenv : Env) (base'' : Heap) (i : Nat) (R : VP) (row : List VP), Kp base base' → CE cenv → Kn cenv scope → Kp base' base'' → items[i]? = some R → rows[i]? = some row → PE prog w base'' A cenv ((x, R) :: Gf base') elt (vln base'' row))
    (hs : ∀ v, foldedSetIterable iter env v = pure v := by intro _; rfl) :
    PC prog w base A env G elt [⟨.Name x px, iter, [], 0⟩] scope pos (vll Heap.IsList zok_isList base rows) := by
  intro s Q E use hb hv k
  refine wp_comp (base := base) items ce hb hv hsc hi hit hfl Gf hGf hfree hx (fun cenv D => eval elt cenv >>= fun v => call (.builtin "list.append") [.ref D, v] >>= fun _ => pure ()) (by intro cenv I D; rfl)
    (JLL rows) (jst_ll hofl) ?_ ?_ ?_ hs
  · intro s₁ cenv D h
    exact ⟨[], rfl, rfl, List.nodup_nil, (fun r hr => nomatch hr), fun j r Ps g1 _ => by simp at g1⟩
  · intro s₁ cenv D kb hce hkn hD hL hown i R s2 hR C E' Q' kk
    obtain ⟨row, hrow⟩ : ∃ row, rows[i]? = some row := by
      have := (List.getElem?_eq_some_iff.mp hR).1
      exact ⟨rows[i]'(by omega), List.getElem?_eq_getElem _⟩
    refine wpAny_tests_nil ?_
    simp only [if_true]
    have hJ := jst_ll hofl s₁ cenv D i
    refine wpAny_bind (el _ cenv s2.heap i R row kb hce hkn C.kp hR hrow s2 _ _ Kp.rf C.fv.vars fun v h2 t2 k2 p2 => wpAny_bind ?_)
    obtain ⟨a, us, rfl, hnew, hl, hx'⟩ := p2
    have C2' := C.up (tk := t2) hJ k2
    have C2 : CS s₁ cenv D ((x, R) :: Gf s₁.heap) (fun h ys => JLL rows s₁ cenv D i h ys ∧ ∀ r, Value.ref r ∈ ys → ∃ o, s2.heap.get? r = some o) { s2 with heap := h2, toks := t2 } := by
      obtain ⟨ys', ha', hj⟩ := C.acc
      refine ⟨C2'.same, C2'.kp, C2'.ns, C2'.cells, C2'.fv, ys', ha'.at fun o e => k2 _ _ e, hJ _ _ _ hj k2.kx.km, fun r hr => ?_⟩
      obtain ⟨rs, rfl, f2, f3, f4, f5⟩ := hj
      obtain ⟨r', hr', e⟩ := List.mem_map.mp hr
      cases e
      obtain ⟨j, hj⟩ := List.getElem?_of_mem hr'
      have hjl := (List.getElem?_eq_some_iff.mp hj).1
      have hil := (List.getElem?_eq_some_iff.mp hrow).1
      obtain ⟨us', ⟨o, ho, _⟩, _⟩ := f5 j r (rows[j]'(by omega)) hj (List.getElem?_eq_getElem _)
      exact ⟨o, ho⟩
    have hamu : a ∉ D :: own s₁.heap cenv := by
      intro hbm
      have : ∃ o, s2.heap.get? a = some o := by
        rcases List.mem_cons.mp hbm with rfl | hbm
        · obtain ⟨ys, ha, _⟩ := C.acc
          obtain ⟨o, ho, _⟩ := PlainList.isSeq ha
          exact ⟨o, ho⟩
        · rcases own_cases hbm with rfl | ⟨y, hy⟩
          · obtain ⟨m, o, es, ep, ho, _⟩ := C.ns
            exact ⟨o, ho⟩
          · obtain ⟨u, o, ho, _⟩ := C.cells y a hy
            exact ⟨o, ho⟩
      obtain ⟨o, ho⟩ := this
      rw [hnew] at ho; cases ho
    refine append_c C2 hD (fun h ys ⟨⟨rs, e1, e2, _⟩, _⟩ => ?_) (J' := JLL rows s₁ cenv D (i + 1))
      (fun h3 ys ⟨⟨rs, e1, e2, e3, e4, e5⟩, hex⟩ kx3 => ?_) fun s3 C3 kx3 => wpAny_pure (kk _ C3 (k2.kx.tr kx3))
    · have := (List.getElem?_eq_some_iff.mp hrow).1
      rw [e1, List.length_map, e2]; omega
    · have hars : a ∉ rs := fun q => by
        obtain ⟨o, ho⟩ := hex a (by rw [e1]; exact List.mem_map.mpr ⟨a, q, rfl⟩)
        rw [hnew] at ho; cases ho
      refine ⟨rs ++ [a], by simp [e1], by simp [e2], ?_, fun r hr => ?_, fun j r Ps g1 g2 => ?_⟩
      · rw [List.nodup_append]
        refine ⟨e3, by simp, fun b hb c hc e => ?_⟩
        have : c = a := by simpa using hc
        exact hars (this ▸ e ▸ hb)
      · rcases List.mem_append.mp hr with hr | hr
        · exact e4 r hr
        · have : r = a := by simpa using hr
          subst this
          refine ⟨hamu, ?_⟩
          cases e : s₁.heap.get? r with
          | none => rfl
          | some o => have := C.kp _ _ e; rw [hnew] at this; cases this
      · by_cases hj : j < rs.length
        · rw [List.getElem?_append_left hj] at g1
          obtain ⟨us', a', b'⟩ := e5 j r Ps g1 g2
          exact ⟨us', isList_kx kx3 (e4 r (List.mem_of_getElem? g1)).1 a', all2_flat (hofl Ps (List.mem_of_getElem? g2)) b'⟩
        · have hj' : j = rs.length := by
            have := (List.getElem?_eq_some_iff.mp g1).1
            simp at this; omega
          subst hj'
          rw [List.getElem?_append_right (Nat.le_refl _)] at g1
          simp at g1; subst g1
          rw [e2, hrow] at g2; cases g2
          exact ⟨us, isList_kx kx3 hamu hl, all2_flat (hofl row (List.mem_of_getElem? hrow)) hx'⟩
  · intro s₁ cenv D h' tk ys k1 hD k2 ha hj hL hN
    obtain ⟨rs, rfl, e2, e3, e4, e5⟩ := hj
    refine k _ h' tk _ (k1.tr k2) ⟨D, rs, rfl, ha.isList, fun q => (e4 D q).1 List.mem_cons_self, e3, fun r hr => ?_, e2.trans hlen.symm, e5, hofl⟩ (k1.none hL) hN
    rcases List.mem_cons.mp hr with rfl | hr
    · exact (hb.tr k1).none hD
    · exact (hb.tr k1).none (e4 r hr).2
end
end Mine
namespace Mine
open PySem PyProof.Rows PySem.Calls

section
variable {prog : Program} {w : World} {base : Heap} {A : Around} {E : Value → Shared → Prop} {s₀ s : Shared} {env : Env} {G : List (Str × VP)}

/-- two names at once, stored from the front -/
theorem ex_unpack2 {x y : Str} {px py tpos pos : Pos} {c : Nat} {value : Expr} {rest : List Stmt} {P1 P2 : VP} {Q : Flow → Shared → Prop} (hh : A.handled = none) (fe : FEnv env) (hb : Kp base s.heap) (F : Fs s₀ env G s)
    (hk : env.kindOf x = some .local ∨ env.kindOf x = some .cell) (hk' : env.kindOf y = some .local ∨ env.kindOf y = some .cell) (hq1 : Sq P1) (hq2 : Sq P2)
    (hs : swapsWithSole [.Tuple [.Name x px, .Name y py] c tpos] value pos.line env = pure false)
    (hsw : swappedStores [.Tuple [.Name x px, .Name y py] c tpos] value env = pure none)
    (he : PE prog w base A env G value (vt [P1, P2]))
    (k : ∀ h' tk, Kf env s.heap h' → Fs s₀ env ((y, P2) :: (x, P1) :: G) { s with heap := h', toks := tk } → wpAny (model prog w) A (execs rest env) Q E { s with heap := h', toks := tk }) :
    wpAny (model prog w) A (execs (.Assign [.Tuple [.Name x px, .Name y py] c tpos] value pos :: rest) env) Q E s := by
  refine wpAny_execs_cons (Assign_Tuple (he s _ E hb (F.vars fe) fun v h1 t1 k1 p1 => ?_) hs hsw)
  obtain ⟨a, us, rfl, hl, hx⟩ := p1
  match us, hx with
  | [v1, v2], ⟨q1, q2, _⟩ =>
    refine wpAny_assign_Tuple hh hl rfl rfl fun h2 he2 => ?_
    have k2 : Kp h1 h2 := fun b o e => he2 b o (Nat.ne_of_lt (Heap.lt_size e)) e
    show wpAny _ _ (holding [v2] (assign (.Name x px) env v1) >>= fun _ => (holding [] (assign (.Name y py) env v2) >>= fun _ => pure ())) _ _ _
    refine wpAny_bind (wpAny_holding (wpAny_assign_Name (store_ fe (F.up (tk := t1) (k1.tr k2)) hk (P1.up _ _ _ k2 q1) hq1 fun h3 t3 ks F' => ?_)))
    refine wpAny_bind (wpAny_holding (wpAny_assign_Name (store_ fe F' hk' (hq2 _ _ _ ks.ks (P2.up _ _ _ k2 q2)) hq2 fun h4 t4 ks' F'' => ?_)))
    exact wpAny_pure (k h4 t4 ((k1.tr k2).kf.tr (ks.tr ks')) F'')
end
end Mine
namespace Mine
open PySem PyProof.Rows PySem.Calls

section
variable {prog : Program} {w : World} {base : Heap} {A : Around} {mg mb : Str → Option Value} {E : Value → Shared → Prop} {s₀ s : Shared} {env : Env} {G : List (Str × VP)}

theorem PE.congr {e : Expr} {R R' : VP} (x : PE prog w base A env G e R) (h : R = R') : PE prog w base A env G e R' := h ▸ x
theorem PE.bc {x : Str} {p pos : Pos} {e : Expr} {rest : List Expr} {id : String} {Ps : List VP} {R : VP} (ok : EnvOk env) (B : Base mg mb base) (hg : mg x = none) (hv : bootBuiltins x = some (.builtin id))
    (hx : env.kindOf x = some .globalImplicit) (hn : x ≠ "__name__") (hd : (x == ("__debug__" : Str)) = false) (hdo : Does prog w base A (.builtin id) Ps R)
    (ha : PA prog w base A env G pos (e :: rest) Ps) (hs : starEach (e :: rest) env = (false, eval e env) :: starEach rest env) :
    PE prog w base A env G (.Call (.Name x p) (e :: rest) [] pos) R := PE.callB (PE.built ok B hx hg hv hn hd) ha hs hdo
theorem PE.tc {x : Str} {p pos : Pos} {e : Expr} {rest : List Expr} {id : String} {Ps : List VP} {R : VP} (ok : EnvOk env) (B : Base mg mb base) (hg : mg x = none) (hv : bootBuiltins x = some (.type id))
    (hx : env.kindOf x = some .globalImplicit) (hn : x ≠ "__name__") (hd : (x == ("__debug__" : Str)) = false) (hdo : Does prog w base A (.type id) Ps R)
    (ha : PA prog w base A env G pos (e :: rest) Ps) (hs : starEach (e :: rest) env = (false, eval e env) :: starEach rest env) :
    PE prog w base A env G (.Call (.Name x p) (e :: rest) [] pos) R := PE.callT (PE.built ok B hx hg hv hn hd) ha hs hdo
theorem PE.dc {name : Str} {p pos : Pos} {e : Expr} {rest : List Expr} {params : Arguments} {body : List Stmt} {scope : Scope} {f : Addr} {Ps : List VP} {R : VP} (ok : EnvOk env) (B : Base mg mb base)
    (hf : FnAt mg base name params body scope f) (hx : env.kindOf name = some .globalImplicit) (hd : (name == ("__debug__" : Str)) = false)
    (ha : PA prog w base A env G pos (e :: rest) Ps) (hs : starEach (e :: rest) env = (false, eval e env) :: starEach rest env) (hdo : Does prog w base A (.ref f) Ps R) :
    PE prog w base A env G (.Call (.Name name p) (e :: rest) [] pos) R := by
  obtain ⟨hg, o, pm, code, doc, ho, hdat, hcd⟩ := hf
  exact PE.callF ho hdat (PE.glob ok B hx hg hd) ha hs hdo
theorem PE.lens {p pos : Pos} {e : Expr} {l : List Nat} (ok : EnvOk env) (B : Base mg mb base) (hg : mg "len" = none) (hz : l.length < 2 ^ 62)
    (hx : env.kindOf ("len" : Str) = some .globalImplicit) (h : PE prog w base A env G e (vs (S l))) (hs : starEach [e] env = (false, eval e env) :: starEach [] env) :
    PE prog w base A env G (.Call (.Name "len" p) [e] [] pos) (vi l.length) :=
  PE.bc ok B hg rfl hx (by decide) rfl (do_len_s hz) (PA.cons h PA.nil hs) hs
theorem flat_vis (l : List Int) : ∀ P ∈ l.map vi, Flat P := by
  intro P hP
  obtain ⟨i, _, rfl⟩ := List.mem_map.mp hP
  exact flat_vi i
theorem PE.sgn {value slice : Expr} {pos : Pos} {l : List Nat} {i : Nat} {c : Nat} (hv : PE prog w base A env G value (vs (S l))) (hi : PE prog w base A env G slice (vi (i : Int))) (hc : l[i]? = some c) (hb : l.length < 1000)
    (hs : ∀ o i, subscripted slice false o i = operate [o, i] (getItem o i)) : PE prog w base A env G (.Subscript value slice pos) (vs (S [c])) := by
  have hl := (List.getElem?_eq_some_iff.mp hc).1
  exact PE.item_s (l := l) (i := (i : Int)) (c := c) hv hi (by omega) (by rw [seqIx hl]; exact hc) hs
theorem rsize0 {x : Int} {n : Nat} (h : x = n) : Builtin.Range.rangeSize 0 x 1 = (n : Nat) := by subst h; exact rsize01 n
theorem small0 {x : Int} {n : Nat} (h : x = n) (hn : n ≤ 1000000) : Builtin.Range.small 0 x 1 = true := by subst h; exact small01 hn
theorem flatten_single {α : Type} : ∀ l : List α, (l.map fun x => [x]).flatten = l
  | [] => rfl
  | a :: l => by simp [flatten_single l]
theorem gf_same {G Gf : List (Str × VP)} {scope : Scope} (h : ∀ p ∈ Gf, Flat p.2 ∧ scope.names.lookup p.1 = some .free ∧ G.lookup p.1 = some p.2) :
    ∀ h₁ : Heap, ∀ y P', Gf.lookup y = some P' → Flat P' ∧ scope.names.lookup y = some .free ∧ ∃ P, G.lookup y = some P ∧ ∀ v, P.p h₁ v → P'.p h₁ v := by
  intro h₁ y P' e
  obtain ⟨a, b, c⟩ := h (y, P') (mem_of_lookup e)
  exact ⟨a, b, P', c, fun _ x => x⟩
theorem swaps_yes {env : Env} {elt : Expr} {gens : List Comprehension} {scope : Scope} {p p' : Pos} {x : Str} {n : Nat} (fe : FEnv env) (hk : env.kindOf x = some .local)
    (h : (p'.line == (Expr.ListComp elt gens scope p).pos.line && !(scope.names.any fun (n, k) => n == x && (k == .local || k == .cell))) = true) : swapsWith (.ListComp elt gens scope p) (some (.Name x p')) n env = pure true := by
  have hb : env.blockKind = .function := by unfold Env.blockKind; simp [fe.k]
  show (pure (env.blockKind == .function && env.kindOf x == some .local && p'.line == (Expr.ListComp elt gens scope p).pos.line && !(scope.names.any fun (n, k) => n == x && (k == .local || k == .cell))) : Sem Bool) = _
  rw [hb, hk, Bool.and_assoc, h]
  rfl
theorem Fs.named (F : Fs s₀ env G s) {x : Str} {P : VP} (h : G.lookup x = some P) : ∃ v, P.p s.heap v ∧ ∀ P', Sq P' → P'.p s.heap v → Fs s₀ env ((x, P') :: G) s := by
  obtain ⟨m, cm, ic, hv⟩ := F.ic
  obtain ⟨v, h1, h2⟩ := hv x P h
  refine ⟨v, h2, fun P' hq hp => ⟨⟨m, cm, ic, fun y Q e => ?_⟩, fun y Q e => ?_⟩⟩ <;> rcases lookup_cons_cases e with ⟨rfl, rfl⟩ | ⟨_, e⟩
  · exact ⟨v, h1, hp⟩
  · exact hv y Q e
  · exact hq
  · exact F.sq y Q e
theorem free_of {scope : Scope} (l : List Str) (hl : (scope.names.filterMap fun p => if p.2 == .free then some p.1 else none) = l) (h : ∀ y ∈ l, env.kindOf y ≠ some .local ∧ ∃ P, G.lookup y = some P) :
    ∀ y, (y, NameKind.free) ∈ scope.names → env.kindOf y ≠ some .local ∧ ∃ P, G.lookup y = some P := by
  intro y hy
  refine h y ?_
  rw [← hl]
  exact List.mem_filterMap.mpr ⟨(y, .free), hy, rfl⟩
theorem ne_local {k : NameKind} {x : Str} (h : env.kindOf x = some k) (hk : k ≠ .local) : env.kindOf x ≠ some .local := by
  rw [h]; intro e; cases e; exact hk rfl
theorem Kn.nl {sc : Scope} (h : Kn env sc) {x : Str} (hx : sc.names.lookup x = some .free) : env.kindOf x ≠ some .local := by
  rcases h x .free hx with e | ⟨_, e⟩ <;> (rw [e]; decide)
theorem cut_to (l : List Nat) {k : Nat} (h : k ≤ l.length) : cut l none (some (k : Int)) = l.take k := by
  have e : clipN l.length (some (k : Int)) l.length = k := by unfold clipN; simp only; rw [if_neg (by omega)]; omega
  unfold cut
  rw [e]
  simp [clipN]
theorem LL.kx {Z : Heap → Addr → Array Value → Prop} {h₀ h h' : Heap} {R : Addr} {rs : List Addr} {rows : List (List VP)} {mu : List Addr} (z : ZOk Z) (L : LL Z h₀ h R rs rows) (hm : ∀ q ∈ R :: rs, q ∉ mu) (k : KX mu h h') : LL Z h₀ h' R rs rows := by
  refine ⟨z.keep _ _ _ _ (fun o e => k R o (hm R List.mem_cons_self) e) L.top, L.out, L.nd, L.new, L.len, fun i r Ps e1 e2 => ?_, L.flat⟩
  obtain ⟨us, a, b⟩ := L.row i r Ps e1 e2
  exact ⟨us, z.keep _ _ _ _ (fun o e => k r o (hm r (List.mem_cons_of_mem _ (List.mem_of_getElem? e1))) e) a, all2_flat (L.flat Ps (List.mem_of_getElem? e2)) b⟩
theorem cutL_to {α : Type} (l : List α) (k : Nat) : cutL l none (some (k : Int)) = l.take k := by
  have e : clipN l.length (some (k : Int)) l.length = min k l.length := by unfold clipN; simp only; rw [if_neg (by omega)]; omega
  unfold cutL
  rw [e]
  simp only [clipN, List.drop_zero, Nat.sub_zero]
  rcases Nat.le_total k l.length with h | h
  · rw [Nat.min_eq_left h]
  · rw [Nat.min_eq_right h, List.take_of_length_le (Nat.le_refl _), List.take_of_length_le h]
theorem cutL_from {α : Type} (l : List α) (k : Nat) : cutL l (some (k : Int)) none = l.drop k := by
  have e : clipN l.length (some (k : Int)) 0 = min k l.length := by unfold clipN; simp only; rw [if_neg (by omega)]; omega
  unfold cutL
  rw [e]
  simp only [clipN]
  rcases Nat.le_total k l.length with h | h
  · rw [Nat.min_eq_left h, List.take_of_length_le (by simp)]
  · rw [Nat.min_eq_right h, List.drop_eq_nil_of_le (Nat.le_refl _), List.drop_eq_nil_of_le h]; simp
theorem sq_vls {rows : List (List VP)} (h : ∀ Ps ∈ rows, ∀ P ∈ Ps, Flat P) : Sq (vl (rows.map vl)) := by
  refine sq_vl fun P hP => ?_
  obtain ⟨Ps, hPs, rfl⟩ := List.mem_map.mp hP
  exact sq_vl fun Q hQ => (h Ps hPs Q hQ).sq
theorem rsizeF {j n : Nat} (h : j ≤ n) : Builtin.Range.rangeSize (j : Int) (n : Int) 1 = ((n - j : Nat) : Nat) := by
  unfold Builtin.Range.rangeSize
  simp
  omega
theorem smallF {j n : Nat} (h : j ≤ n) (hn : n ≤ 1000000) : Builtin.Range.small (j : Int) (n : Int) 1 = true := by
  unfold Builtin.Range.small
  rw [rsizeF h]
  simp [Builtin.Range.rangeFitsLong]
  omega
theorem rgiF_get {j n i : Nat} {R : VP} (h : ((rgi (j : Int) 1 n).map vi)[i]? = some R) : i < n ∧ R = vi ((j + i : Nat) : Int) := by
  have hl := (List.getElem?_eq_some_iff.mp h).1
  simp [rgi] at hl
  simp [rgi, hl] at h
  refine ⟨hl, ?_⟩
  rw [← h]; congr 1
theorem PE.lenl {p pos : Pos} {e : Expr} {Ps : List VP} (ok : EnvOk env) (B : Base mg mb base) (hg : mg "len" = none) (hz : Ps.length < 2 ^ 62)
    (hx : env.kindOf ("len" : Str) = some .globalImplicit) (h : PE prog w base A env G e (vl Ps)) (hs : starEach [e] env = (false, eval e env) :: starEach [] env) :
    PE prog w base A env G (.Call (.Name "len" p) [e] [] pos) (vi Ps.length) :=
  PE.bc ok B hg rfl hx (by decide) rfl (do_len_l hz) (PA.cons h PA.nil hs) hs
end
end Mine
namespace Mine
open PySem PyProof.Rows PySem.Calls

section
variable {prog : Program} {w : World} {base : Heap} {A : Around} {mg mb : Str → Option Value} {E : Value → Shared → Prop} {s₀ s : Shared} {env : Env} {G : List (Str × VP)}

/-- two lists laid together: a new plain list -/
theorem ob_addl {Ps Qs : List VP} (hsz : Ps.length + Qs.length ≤ sizeLine) : OpB prog w base A .Add (vl Ps) (vl Qs) (vlp base (Ps ++ Qs)) := by
  rintro s _ _ Q E hb ⟨l, vs, rfl, hl, hx⟩ ⟨b, ws, rfl, hb2, hy⟩ k
  obtain ⟨⟨cls, dd, data, sl⟩, ho, hc, n, hd⟩ := id hl
  obtain ⟨⟨cls2, dd2, data2, sl2⟩, ho2, hc2, n2, hd2⟩ := id hb2
  simp only at hc hd hc2 hd2
  subst hc hd hc2 hd2
  have l1 := hx.length
  have l2 := hy.length
  have e : vs.toArray ++ ws.toArray = (vs ++ ws).toArray := by simp
  refine concat_meets ⟨_, ho, rfl⟩ ⟨_, ho2, rfl⟩ noFill_list_add seq_list_add PySem.F.slot_list_add PySem.F.entry_list_add (PySem.F.args_list_add_2 _ _) (list_addW l b vs.toArray ws.toArray n n2 dd dd2 sl sl2 (by simp only [List.size_toArray]; omega)) ⟨ho, ho2, ?_⟩
  rw [e]
  exact k _ _ _ (Kp.push _ _) ⟨_, vs ++ ws, rfl, hb.none_of, ⟨_, _, Heap.get?_push_size _ rfl, rfl, rfl, rfl⟩, (hx.up (Kp.push _ _)).append (hy.up (Kp.push _ _))⟩

/-! dicts whose keys are texts -/
def DV (prog : Program) (w : World) (h : Heap) (d : Addr) (kvs : List (List Nat × VP)) : Prop :=
  (d == sysModules) = false ∧ ∃ us : List Value, h.DictOf (strKind prog w) d ((kvs.map fun p => S p.1).zip us) ∧ All2 h us (kvs.map (·.2))
theorem DV.up {h h' : Heap} {d : Addr} {kvs : List (List Nat × VP)} (k : Kp h h') (x : DV prog w h d kvs) : DV prog w h' d kvs :=
  let ⟨a, us, b, c⟩ := x; ⟨a, us, b.keep k, c.up k⟩
theorem DV.has {h : Heap} {d : Addr} {kvs : List (List Nat × VP)} (x : DV prog w h d kvs) : ∃ o, h.get? d = some o ∧ isSeq o = false := by
  obtain ⟨_, us, ⟨o, es, ep, ho, _, hd, _⟩, _⟩ := x
  exact ⟨o, ho, by simp [isSeq, hd]⟩
/-- the dict itself is not touched -/
theorem DV.kx {h h' : Heap} {d : Addr} {kvs : List (List Nat × VP)} {mu : List Addr} (x : DV prog w h d kvs) (hf : ∀ p ∈ kvs, Flat p.2) (k : KX mu h h') (hd : d ∉ mu) : DV prog w h' d kvs := by
  obtain ⟨a, us, ⟨o, es, ep, ho, r⟩, c⟩ := x
  exact ⟨a, us, ⟨o, es, ep, k d o hd ho, r⟩, all2_flat (by intro P hP; obtain ⟨p, hp, rfl⟩ := List.mem_map.mp hP; exact hf p hp) c⟩
theorem valueAt_zip {h : Heap} (k : List Nat) : ∀ {kvs : List (List Nat × VP)} {us : List Value}, All2 h us (kvs.map (·.2)) →
    (∀ P, kvs.lookup k = some P → ∃ v, valueAt ((kvs.map fun p => S p.1).zip us) (S k) = some v ∧ P.p h v) ∧ (kvs.lookup k = none → valueAt ((kvs.map fun p => S p.1).zip us) (S k) = none)
  | [], [], _ => ⟨fun P e => by simp at e, fun _ => rfl⟩
  | (k', P') :: kvs, u :: us, ⟨hp, hr⟩ => by
    obtain ⟨i1, i2⟩ := valueAt_zip k hr
    simp only [List.map_cons, List.zip_cons_cons]
    unfold valueAt at i1 i2 ⊢
    rw [List.lookup_cons, List.find?_cons]
    by_cases hk : k = k'
    · subst hk
      simp only [BEq.rfl, decide_true, Option.map_some]
      exact ⟨fun P e => ⟨u, rfl, by cases e; exact hp⟩, fun e => by cases e⟩
    · have h1 : (k == k') = false := beq_eq_false_iff_ne.mpr hk
      have h2 : decide (S k' = S k) = false := decide_eq_false fun e => hk (S_inj e).symm
      rw [h1, h2]
      exact ⟨i1, i2⟩
theorem DV.at {h : Heap} {d : Addr} {kvs : List (List Nat × VP)} {k : List Nat} (x : DV prog w h d kvs) :
    ∃ f : Str → Option Value, h.MapOf (strKind prog w) d f ∧ (∀ P, kvs.lookup k = some P → ∃ v, f (S k) = some v ∧ P.p h v) ∧ (kvs.lookup k = none → f (S k) = none) := by
  obtain ⟨_, us, b, c⟩ := x
  obtain ⟨i1, i2⟩ := valueAt_zip k c
  exact ⟨_, b.mapOf, i1, i2⟩
def vdn (prog : Program) (w : World) (h₀ : Heap) (kvs : List (List Nat × VP)) : VP := ⟨fun h v => ∃ d, v = .ref d ∧ h₀.get? d = none ∧ DV prog w h d kvs, fun _ _ _ k ⟨d, e, n, x⟩ => ⟨d, e, n, x.up k⟩⟩
def vdv (prog : Program) (w : World) (kvs : List (List Nat × VP)) : VP := ⟨fun h v => ∃ d, v = .ref d ∧ DV prog w h d kvs, fun _ _ _ k ⟨d, e, x⟩ => ⟨d, e, x.up k⟩⟩

theorem PE.getd {value slice : Expr} {pos : Pos} {kvs : List (List Nat × VP)} {k : List Nat} {R : VP} (hv : PE prog w base A env G value (vdv prog w kvs)) (hi : PE prog w base A env G slice (vs (S k))) (hx : kvs.lookup k = some R)
    (hs : ∀ o i, subscripted slice false o i = operate [o, i] (getItem o i)) : PE prog w base A env G (.Subscript value slice pos) R := by
  refine PE.item hv hi ?_ hs
  rintro s _ _ Q E hb ⟨d, rfl, x⟩ ⟨u, rfl⟩ kk
  obtain ⟨f, hm, h1, _⟩ := x.at (k := k)
  obtain ⟨v, e, p⟩ := h1 R hx
  exact ⟨"dict", _, hm.typeIs, slot_dict_getitem.lookup, wpAny_getItem_of (strKind_is prog w (S k) u) hm e (kk v s.heap _ Kp.rf p)⟩
theorem oc_in {kvs : List (List Nat × VP)} {k : List Nat} : OpC prog w base A .In (vs (S k)) (vdv prog w kvs) (kvs.lookup k).isSome := by
  rintro s _ _ Q E hb ⟨u, rfl⟩ ⟨d, rfl, x⟩ kk
  obtain ⟨f, hm, h1, h0⟩ := x.at (k := k)
  refine wpAny_in_of (strKind_is prog w (S k) u) x.1 hm ?_
  have e : (f (S k)).isSome = (kvs.lookup k).isSome := by
    cases e : kvs.lookup k with
    | none => rw [h0 e]; rfl
    | some P => obtain ⟨v, e', _⟩ := h1 P e; rw [e']; rfl
  rw [e]
  exact kk _ s.heap _ Kp.rf rfl
theorem oc_notin {kvs : List (List Nat × VP)} {k : List Nat} : OpC prog w base A .NotIn (vs (S k)) (vdv prog w kvs) (!(kvs.lookup k).isSome) := by
  rintro s _ _ Q E hb ⟨u, rfl⟩ ⟨d, rfl, x⟩ kk
  obtain ⟨f, hm, h1, h0⟩ := x.at (k := k)
  refine wpAny_notIn_of (strKind_is prog w (S k) u) x.1 hm ?_
  have e : (f (S k)).isSome = (kvs.lookup k).isSome := by
    cases e : kvs.lookup k with
    | none => rw [h0 e]; rfl
    | some P => obtain ⟨v, e', _⟩ := h1 P e; rw [e']; rfl
  rw [e]
  exact kk _ s.heap _ Kp.rf rfl

theorem notSys (B : Base mg mb base) {h : Heap} (k : Kp base h) : (h.objs.size == sysModules) = false := by
  obtain ⟨o, es, ep, ho, _⟩ := B.g
  have := Heap.lt_size (k _ _ ho)
  rw [beq_eq_false_iff_ne]
  intro e
  rw [e] at this
  exact absurd this (by decide)

/-- {k: v} and {k: v, k': v'} -/
theorem PE.dict1 {k1 v1 : Expr} {pos : Pos} {a1 : List Nat} {P1 : VP} (B : Base mg mb base) (hk1 : PE prog w base A env G k1 (vs (S a1))) (hv1 : PE prog w base A env G v1 P1) (hf : Flat P1) :
    PE prog w base A env G (.Dict [some k1] [v1] pos) (vdn prog w base [(a1, P1)]) := by
  intro s Q E hb hv k
  have hns := notSys B hb
  refine wpAny_Dict_walk (knd := strKind prog w) rfl rfl (by simp) (by simp) ?_
  have kp0 := Kp.push s.heap { cls := .type "dict", data := .dict #[] }
  refine pairTrees_cons_walk (hk1 _ _ E (hb.tr kp0) (hv.up kp0) fun kv h1 t1 kp1 p1 => hv1 _ _ E (hb.tr (kp0.tr kp1)) (hv.up (kp0.tr kp1)) fun vv h2 t2 kp2 p2 => pairTrees_nil_walk ?_)
  obtain ⟨u, rfl⟩ := p1
  refine ⟨[(S a1, vv)], ⟨strKind_is prog w _ _, rfl, trivial⟩, (Heap.DictOf.new s.heap).keep (kp1.tr kp2), fun h' hd hs => ?_⟩
  rw [merged_nil_of_nodup _ (by simp)] at hd
  refine k _ h' _ (fun b o e => (hs.2 b (Nat.ne_of_lt (Heap.lt_size e))).trans ((kp0.tr (kp1.tr kp2)) b o e)) ⟨_, rfl, hb.none_of, hns, [vv], hd, hf _ _ _ p2, trivial⟩
theorem PE.dict2 {k1 v1 k2 v2 : Expr} {pos : Pos} {a1 a2 : List Nat} {P1 P2 : VP} (B : Base mg mb base) (hk1 : PE prog w base A env G k1 (vs (S a1))) (hv1 : PE prog w base A env G v1 P1) (hf : Flat P1)
    (hk2 : PE prog w base A env G k2 (vs (S a2))) (hv2 : PE prog w base A env G v2 P2) (hf2 : Flat P2) (hne : a1 ≠ a2) :
    PE prog w base A env G (.Dict [some k1, some k2] [v1, v2] pos) (vdn prog w base [(a1, P1), (a2, P2)]) := by
  intro s Q E hb hv k
  have hns := notSys B hb
  refine wpAny_Dict_walk (knd := strKind prog w) rfl rfl (by simp) (by simp) ?_
  have kp0 := Kp.push s.heap { cls := .type "dict", data := .dict #[] }
  refine pairTrees_cons_walk (hk1 _ _ E (hb.tr kp0) (hv.up kp0) fun kv h1 t1 kp1 p1 => hv1 _ _ E (hb.tr (kp0.tr kp1)) (hv.up (kp0.tr kp1)) fun vv h2 t2 kp2 p2 => ?_)
  have k02 := kp0.tr (kp1.tr kp2)
  refine pairTrees_cons_walk (hk2 _ _ E (hb.tr k02) (hv.up k02) fun kv' h3 t3 kp3 p3 => hv2 _ _ E (hb.tr (k02.tr kp3)) (hv.up (k02.tr kp3)) fun vv' h4 t4 kp4 p4 => pairTrees_nil_walk ?_)
  obtain ⟨u, rfl⟩ := p1
  obtain ⟨u', rfl⟩ := p3
  refine ⟨[(S a1, vv), (S a2, vv')], ⟨strKind_is prog w _ _, rfl, strKind_is prog w _ _, rfl, trivial⟩, (Heap.DictOf.new s.heap).keep (kp1.tr (kp2.tr (kp3.tr kp4))), fun h' hd hs => ?_⟩
  rw [merged_nil_of_nodup _ (by
    have : ¬ S a1 = S a2 := fun e => hne (S_inj e)
    simp [this])] at hd
  refine k _ h' _ (fun b o e => (hs.2 b (Nat.ne_of_lt (Heap.lt_size e))).trans ((k02.tr (kp3.tr kp4)) b o e)) ⟨_, rfl, hb.none_of, hns, [vv, vv'], hd, hf _ _ _ p2, hf2 _ _ _ p4, trivial⟩

/-- an object that is none of the frame's and no list changes -/
theorem Fs.offd (F : Fs s₀ env G s) {C : Addr} {h' : Heap} {tk : Nat} (hq : ∀ o, s.heap.get? C = some o → isSeq o = false) (hs : Heap.SameBut C s.heap h') (hC : C ∉ fa env) (hC0 : s₀.heap.get? C = none) : Fs s₀ env G { s with heap := h', toks := tk } := by
  have ks := ks_of_sameBut hs hq
  obtain ⟨m, cm, ⟨⟨same, ns, keep, fresh⟩, cell, apart, above⟩, hv⟩ := F.ic
  refine ⟨⟨m, cm, ⟨⟨?_, ns.sameBut hs (fun q => hC (q ▸ List.mem_cons_self)), fun b o e => (hs.2 b (fun q => by subst q; rw [hC0] at e; cases e)).trans (keep b o e), fresh⟩, fun n c hc => (cell n c hc).sameBut hs (fun q => hC (q ▸ lookup_mem_fa hc)), apart, above⟩, fun x P e => ?_⟩, F.sq⟩
  · obtain ⟨h, t, rfl⟩ := same
    exact ⟨h', tk, rfl⟩
  · obtain ⟨v, h1, h2⟩ := hv x P e
    exact ⟨v, h1, F.sq x P e _ _ _ ks h2⟩

/-- d[k] = v, a key that is not there yet -/
theorem ex_setd {o i value : Expr} {pos' pos : Pos} {rest : List Stmt} {P : VP} {d : Addr} {k : List Nat} {kvs : List (List Nat × VP)} {Q : Flow → Shared → Prop} (fe : FEnv env) (hb : Kp base s.heap) (F : Fs s₀ env G s)
    (hs : swapsWith value (some (.Subscript o i pos')) pos.line env = pure false) (hfP : Flat P) (he : PE prog w base A env G value P)
    (ho : PE prog w base A env G o (vr d)) (hi : PE prog w base A env G i (vs (S k))) (hd : DV prog w s.heap d kvs) (hfl : ∀ p ∈ kvs, Flat p.2) (hk : kvs.lookup k = none) (hsz : kvs.length ≤ sizeLine) (hd0 : s₀.heap.get? d = none) (hdf : d ∉ fa env)
    (kk : ∀ h' tk, KX [d] s.heap h' → Ks s.heap h' → DV prog w h' d (kvs ++ [(k, P)]) → Fs s₀ env G { s with heap := h', toks := tk } → wpAny (model prog w) A (execs rest env) Q E { s with heap := h', toks := tk }) :
    wpAny (model prog w) A (execs (.Assign [.Subscript o i pos'] value pos :: rest) env) Q E s := by
  refine wpAny_execs_cons (wpAny_Assign_Subscript (he s _ E hb (F.vars fe) fun v h1 t1 k1 p1 => ?_) hs)
  refine ho _ _ E (hb.tr k1) ((F.vars fe).up k1) fun ov h2 t2 k2 p2 => ?_
  refine hi _ _ E (hb.tr (k1.tr k2)) ((F.vars fe).up (k1.tr k2)) fun iv h3 t3 k3 p3 => ?_
  have e2 : ov = .ref d := p2
  subst e2
  obtain ⟨t, rfl⟩ := p3
  have k4 := k1.tr (k2.tr k3)
  have F3 := F.up (tk := t3) k4
  obtain ⟨hns, us, hdo, hus⟩ := hd.up k4
  have hlen : us.length = kvs.length := by simpa using hus.length
  refine wpAny_setItem_pairs (strKind_is prog w (S k) t) hdo (fun h' hd' hs' => ?_) (by simp [hlen]; exact hsz)
  have hq : ∀ o', h3.get? d = some o' → isSeq o' = false := fun o' e => by
    obtain ⟨o2, es, ep, ho2, _, hdd, _⟩ := hdo
    rw [ho2] at e; cases e; simp [isSeq, hdd]
  have F4 := F3.offd (tk := t3 + 1) hq hs' hdf hd0
  have est : stored ((kvs.map fun p => S p.1).zip us) (S k) v = ((kvs ++ [(k, P)]).map fun p => S p.1).zip (us ++ [v]) := by
    have hnone : ((kvs.map fun p => S p.1).zip us).any (fun kv => decide (kv.1 = S k)) = false := by
      rw [List.any_eq_false]
      intro p hp
      have hm := (List.of_mem_zip hp).1
      obtain ⟨q, hq, e⟩ := List.mem_map.mp hm
      intro he
      have he' := of_decide_eq_true he
      rw [← e] at he'
      have hqk := S_inj he'
      have : kvs.lookup k ≠ none := by
        subst hqk
        clear hus hdo hp hm hk he he' e hlen hd' kk hd hfl hsz
        intro hn
        induction kvs with
        | nil => cases hq
        | cons a r ih =>
          rw [List.lookup_cons] at hn
          by_cases hx : q.1 = a.1
          · simp [hx] at hn
          · have hx' : (q.1 == a.1) = false := beq_eq_false_iff_ne.mpr hx
            rw [hx'] at hn
            rcases List.mem_cons.mp hq with rfl | hq
            · exact hx rfl
            · exact ih hq hn
      exact this hk
    unfold stored
    rw [if_neg (by rw [hnone]; decide)]
    rw [List.map_append, List.zip_append (by simp [hlen])]
    rfl
  rw [est] at hd'
  have ks := ks_of_sameBut hs' hq
  refine kk h' (t3 + 1) (fun b o hb e => (hs'.2 b (fun q => hb (q ▸ List.mem_cons_self))).trans (k4 b o e)) (k4.ks.tr ks) ⟨hns, us ++ [v], hd', ?_⟩ F4
  rw [List.map_append]
  exact (all2_flat (by intro P hP; obtain ⟨p, hp, rfl⟩ := List.mem_map.mp hP; exact hfl p hp) hus).append ⟨hfP _ _ _ p1, trivial⟩

/-- a store of anything; the name then bears just this value -/
theorem ex_assignV {x : Str} {p' pos : Pos} {value : Expr} {rest : List Stmt} {P : VP} {Q : Flow → Shared → Prop} (fe : FEnv env) (hb : Kp base s.heap) (F : Fs s₀ env G s)
    (hk : env.kindOf x = some .local ∨ env.kindOf x = some .cell) (hs : swapsWith value (some (.Name x p')) pos.line env = pure false) (he : PE prog w base A env G value P)
    (k : ∀ v h1 h' tk, Kp s.heap h1 → P.p h1 v → Kf env h1 h' → Fs s₀ env ((x, vx v) :: G) { s with heap := h', toks := tk } → wpAny (model prog w) A (execs rest env) Q E { s with heap := h', toks := tk }) :
    wpAny (model prog w) A (execs (.Assign [.Name x p'] value pos :: rest) env) Q E s := by
  refine wpAny_execs_cons (wpAny_Assign_Name (he s _ E hb (F.vars fe) fun v h1 t1 k1 p1 => ?_) hs)
  exact store_ fe (F.up k1) hk (P := vx v) rfl (flat_vx v).sq fun h' tk ks F' => k v h1 h' tk k1 p1 ks F'

theorem ex_swapV {x y : Str} {px py tpos vpos pos : Pos} {c c' : Nat} {e1 e2 : Expr} {rest : List Stmt} {P1 P2 : VP} {Q : Flow → Shared → Prop} (hh : A.handled = none) (fe : FEnv env) (hb : Kp base s.heap) (F : Fs s₀ env G s)
    (hk : env.kindOf x = some .local ∨ env.kindOf x = some .cell) (hk' : env.kindOf y = some .local ∨ env.kindOf y = some .cell)
    (hsw : swappedStores [.Tuple [.Name x px, .Name y py] c tpos] (.Tuple [e1, e2] c' vpos) env = pure (some [x, y]))
    (he : PE prog w base A env G (.Tuple [e1, e2] c' vpos) (vt [P1, P2]))
    (k : ∀ v1 v2 h1 h' tk, Kp s.heap h1 → P1.p h1 v1 → P2.p h1 v2 → Kf env h1 h' → Fs s₀ env ((x, vx v1) :: (y, vx v2) :: G) { s with heap := h', toks := tk } → wpAny (model prog w) A (execs rest env) Q E { s with heap := h', toks := tk }) :
    wpAny (model prog w) A (execs (.Assign [.Tuple [.Name x px, .Name y py] c tpos] (.Tuple [e1, e2] c' vpos) pos :: rest) env) Q E s := by
  refine wpAny_execs_cons ?_
  rw [exec_Assign_arm]
  refine wpAny_bind (wpAny_standAt ?_)
  refine wpAny_bind (m := swapsWithSole _ _ _ _) (wpAny_pure ?_)
  rw [if_neg (by decide)]
  refine wpAny_bind (he s _ E hb (F.vars fe) fun v h1 t1 k1 p1 => ?_)
  obtain ⟨a, us, rfl, hl, hx⟩ := p1
  match us, hx with
  | [v1, v2], ⟨q1, q2, _⟩ =>
    rw [hsw]
    refine wpAny_bind (wpAny_pure ?_)
    show wpAny _ _ (rule "assign.swapped-stores" >>= fun _ => unpackItems (.ref a) 2 none >>= fun items => assignInOrder [fun v => bindName env y v, fun v => bindName env x v] items.reverse >>= fun _ => pure Flow.next) _ _ _
    refine wpAny_bind (wpAny_rule (wpAny_bind (wpAny_unpackItems_tuple (items := #[v1, v2]) hh hl fun h2 he2 => ?_)))
    have k2 : Kp h1 h2 := fun b o e => he2 b o (Nat.ne_of_lt (Heap.lt_size e)) e
    show wpAny _ _ (assignInOrder [fun v => bindName env y v, fun v => bindName env x v] [v2, v1] >>= fun _ => pure Flow.next) _ _ _
    refine wpAny_bind ?_
    show wpAny _ _ (holding [v1] (bindName env y v2) >>= fun _ => (holding [] (bindName env x v1) >>= fun _ => pure ())) _ _ _
    refine wpAny_bind (wpAny_holding (wpAny_bindName (store_ fe (F.up (tk := t1) (k1.tr k2)) hk' (P := vx v2) rfl (flat_vx _).sq fun h3 t3 ks F' => ?_)))
    refine wpAny_bind (wpAny_holding (wpAny_bindName (store_ fe F' hk (P := vx v1) rfl (flat_vx _).sq fun h4 t4 ks' F'' => ?_)))
    exact wpAny_pure (wpAny_pure (k v1 v2 h2 h4 t4 (k1.tr k2) (P1.up _ _ _ k2 q1) (P2.up _ _ _ k2 q2) (ks.tr ks') F''))
end
end Mine
namespace Mine
open PySem PyProof.Rows PySem.Calls

section
variable {α : Type} [DecidableEq α]
def grow (sg : List α) (n : Nat) (ws : List (List α)) : List (List α) := ws ++ (ws.map fun w => if w.length = n then sg.map fun c => w ++ [c] else []).flatten
def words3 (sg : List α) : List (List α) := grow sg 1 (grow sg 0 [[]])
def mvOut (w : List α) : List (List α) := (List.range w.length).map fun k => w.take k ++ w.drop (k + 1)
def mvOver (w sg : List α) : List (List α) := ((List.range w.length).map fun k => sg.map fun c => w.take k ++ [c] ++ w.drop (k + 1)).flatten
def mvInto (w sg : List α) : List (List α) := ((List.range (w.length + 1)).map fun k => (sg.map fun c => if w.length < 2 then [w.take k ++ [c] ++ w.drop k] else []).flatten).flatten
def moves (w sg : List α) : List (List α) := mvOut w ++ mvOver w sg ++ mvInto w sg
def turn1 (x y c : α) : Option α := if c = x then some y else if c = y then some x else none
def turnAt (x y : α) (w : List α) (k : Nat) : List (List α) := match w[k]? with
  | some c => (match turn1 x y c with | some d => [w.take k ++ [d] ++ w.drop (k + 1)] | none => [])
  | none => []
def turned (w : List α) (x y : α) : List (List α) := ((List.range w.length).map (turnAt x y w)).flatten
def addOne (cost : Int) (st : List (List α × Int) × List (List α)) (one : List α) : List (List α × Int) × List (List α) :=
  if (st.1.lookup one).isSome then st else (st.1 ++ [(one, cost)], st.2 ++ [one])
def come1 (x y : α) (ws : List (List α)) : List (List α) := (ws.map fun w => turned w x y).flatten
def come2 (sg : List α) (ws : List (List α)) : List (List α) := (ws.map fun w => moves w sg).flatten
def comes (x y z : α) (cost : Nat) (waves : List (List (List α))) : List (List α) :=
  if 1 < cost then come1 x y (waves.getD (cost - 1) []) ++ come2 [x, y, z] (waves.getD (cost - 2) []) else come1 x y (waves.getD (cost - 1) [])
def waveStep (x y z : α) (cost : Nat) (st : List (List α × Int) × List (List (List α))) : List (List α × Int) × List (List (List α)) :=
  let r := (comes x y z cost st.2).foldl (addOne cost) (st.1, [])
  (r.1, st.2 ++ [r.2])
def wavesAt (x y z : α) (w : List α) : Nat → List (List α × Int) × List (List (List α))
  | 0 => ([(w, 0)], [[w]])
  | n + 1 => waveStep x y z (n + 1) (wavesAt x y z w n)
def onePiece (a b : List α) : Bool :=
  let s := if a.length < b.length then a else b
  let l := if a.length < b.length then b else a
  (List.range (s.length + 1)).any fun k => l.take k ++ l.drop (k + (l.length - s.length)) == s
end
def right2 (w one : List Nat) (cost bound : Int) : Bool :=
  (lev one w bound == cost || !(decide (cost - 1 ≤ bound) || (onePiece w one || decide (lev one w bound ≤ bound)))) && lev w one 99 == cost
def atC (o : Option Int) (g : Int → Bool) : Bool := match o with
  | none => false
  | some c => g c
def check2 (x y z : Nat) : Bool := (words3 [x, y, z]).all fun w => (words3 [x, y, z]).all fun one => atC ((wavesAt x y z w 4).1.lookup one) fun c => (List.range 5).all fun b => right2 w one c b

/-! the values -/
def sv (sg : List Nat) : List VP := sg.map fun c => vs (S [c])
def wv (ws : List (List Nat)) : List VP := ws.map fun w => vs (S w)
theorem sv_flat (sg : List Nat) : ∀ P ∈ sv sg, Flat P := by
  intro P hP
  obtain ⟨c, _, rfl⟩ := List.mem_map.mp hP
  exact flat_vs _
theorem wv_flat (ws : List (List Nat)) : ∀ P ∈ wv ws, Flat P := by
  intro P hP
  obtain ⟨c, _, rfl⟩ := List.mem_map.mp hP
  exact flat_vs _
theorem sv_get {sg : List Nat} {i : Nat} {R : VP} (h : (sv sg)[i]? = some R) : ∃ c, sg[i]? = some c ∧ R = vs (S [c]) := by
  unfold sv at h
  rw [List.getElem?_map] at h
  obtain ⟨c, hc, rfl⟩ := Option.map_eq_some_iff.mp h
  exact ⟨c, hc, rfl⟩
theorem wv_get {ws : List (List Nat)} {i : Nat} {R : VP} (h : (wv ws)[i]? = some R) : ∃ c, ws[i]? = some c ∧ R = vs (S c) := by
  unfold wv at h
  rw [List.getElem?_map] at h
  obtain ⟨c, hc, rfl⟩ := Option.map_eq_some_iff.mp h
  exact ⟨c, hc, rfl⟩
theorem wv_app (a b : List (List Nat)) : wv (a ++ b) = wv a ++ wv b := by simp [wv]
theorem wv_single {β : Type} (g : β → List Nat) (l : List β) : wv (l.map g) = (l.map fun c => [vs (S (g c))]).flatten := by
  induction l with
  | nil => rfl
  | cons x l ih => simpa [wv] using ih
theorem wv_flatten (a : List (List (List Nat))) : wv a.flatten = (a.map wv).flatten := by
  induction a with
  | nil => rfl
  | cons x a ih => simp only [List.flatten_cons, wv_app, ih, List.map_cons]
end Mine
namespace Mine
open PySem PyProof.Rows PySem.Calls

section
variable {α : Type} [DecidableEq α]
theorem turnAt_le1 (x y : α) (w : List α) (k : Nat) : (turnAt x y w k).length ≤ 1 := by
  unfold turnAt
  split
  · split <;> simp
  · simp
theorem flatten_bound {β : Type} (n : Nat) : ∀ (l : List (List β)), (∀ a ∈ l, a.length ≤ n) → l.flatten.length ≤ n * l.length
  | [], _ => by simp
  | a :: l, h => by
    have h1 := h a List.mem_cons_self
    have h2 := flatten_bound n l fun b hb => h b (List.mem_cons_of_mem _ hb)
    rw [List.flatten_cons, List.length_append, List.length_cons, Nat.mul_add]; omega
theorem turned_len {w : List α} (h : w.length ≤ 2) (x y : α) : (turned w x y).length ≤ 2 := by
  unfold turned
  have := flatten_bound 1 ((List.range w.length).map (turnAt x y w)) (fun a ha => by obtain ⟨k, _, rfl⟩ := List.mem_map.mp ha; exact turnAt_le1 x y w k)
  simp only [List.length_map, List.length_range] at this
  omega
theorem moves_len {w : List α} (h : w.length ≤ 2) {sg : List α} (hs : sg.length = 3) : (moves w sg).length ≤ 17 := by
  unfold moves
  rw [List.length_append, List.length_append]
  have h1 : (mvOut w).length ≤ 2 := by simp [mvOut]; omega
  have h2 : (mvOver w sg).length ≤ 3 * w.length := by
    unfold mvOver
    have := flatten_bound 3 ((List.range w.length).map fun k => sg.map fun c => w.take k ++ [c] ++ w.drop (k + 1)) (fun a ha => by obtain ⟨k, _, rfl⟩ := List.mem_map.mp ha; simp [hs])
    simpa using this
  have h3 : (mvInto w sg).length ≤ 3 * (w.length + 1) := by
    unfold mvInto
    have := flatten_bound 3 ((List.range (w.length + 1)).map fun k => (sg.map fun c => if w.length < 2 then [w.take k ++ [c] ++ w.drop k] else []).flatten) (fun a ha => by
      obtain ⟨k, _, rfl⟩ := List.mem_map.mp ha
      have := flatten_bound 1 (sg.map fun c => if w.length < 2 then [w.take k ++ [c] ++ w.drop k] else []) (fun b hb => by
        obtain ⟨c, _, rfl⟩ := List.mem_map.mp hb
        split <;> simp)
      simp [hs] at this ⊢; omega)
    simpa using this
  omega
theorem turned_mem {w : List α} {x y : α} : ∀ v ∈ turned w x y, v.length = w.length := by
  intro v hv
  obtain ⟨l, hl, hvl⟩ := List.mem_flatten.mp hv
  obtain ⟨k, hk, rfl⟩ := List.mem_map.mp hl
  have hk' := List.mem_range.mp hk
  unfold turnAt at hvl
  split at hvl
  · split at hvl
    · simp only [List.mem_cons, List.not_mem_nil, or_false] at hvl
      subst hvl; simp; omega
    · cases hvl
  · cases hvl
theorem moves_mem {w sg : List α} (h : w.length ≤ 2) : ∀ v ∈ moves w sg, v.length ≤ 2 := by
  intro v hv
  unfold moves at hv
  rcases List.mem_append.mp hv with hv | hv
  · rcases List.mem_append.mp hv with hv | hv
    · obtain ⟨k, hk, rfl⟩ := List.mem_map.mp hv
      simp; omega
    · obtain ⟨l, hl, hvl⟩ := List.mem_flatten.mp hv
      obtain ⟨k, hk, rfl⟩ := List.mem_map.mp hl
      have hk' := List.mem_range.mp hk
      obtain ⟨c, _, rfl⟩ := List.mem_map.mp hvl
      simp; omega
  · obtain ⟨l, hl, hvl⟩ := List.mem_flatten.mp hv
    obtain ⟨k, hk, rfl⟩ := List.mem_map.mp hl
    have hk' := List.mem_range.mp hk
    obtain ⟨l2, hl2, hvl2⟩ := List.mem_flatten.mp hvl
    obtain ⟨c, _, rfl⟩ := List.mem_map.mp hl2
    split at hvl2
    · simp only [List.mem_cons, List.not_mem_nil, or_false] at hvl2
      subst hvl2; simp; omega
    · cases hvl2

theorem fold_add (cost : Int) : ∀ (l : List (List α)) (kc : List (List α × Int)) (ws : List (List α)),
    (l.foldl (addOne cost) (kc, ws)).1.length ≤ kc.length + l.length ∧ (l.foldl (addOne cost) (kc, ws)).2.length ≤ ws.length + l.length ∧ ∀ v ∈ (l.foldl (addOne cost) (kc, ws)).2, v ∈ ws ∨ v ∈ l
  | [], kc, ws => ⟨by simp, by simp, fun v hv => .inl hv⟩
  | a :: l, kc, ws => by
    rw [List.foldl_cons]
    unfold addOne
    simp only
    split
    · obtain ⟨h1, h2, h3⟩ := fold_add cost l kc ws
      refine ⟨by simp; exact Nat.le_trans h1 (by omega), by simp; exact Nat.le_trans h2 (by omega), fun v hv => ?_⟩
      rcases h3 v hv with h | h
      · exact .inl h
      · exact .inr (List.mem_cons_of_mem _ h)
    · obtain ⟨h1, h2, h3⟩ := fold_add cost l (kc ++ [(a, cost)]) (ws ++ [a])
      refine ⟨by simp at h1 ⊢; exact Nat.le_trans h1 (by omega), by simp at h2 ⊢; exact Nat.le_trans h2 (by omega), fun v hv => ?_⟩
      rcases h3 v hv with h | h
      · rcases List.mem_append.mp h with h | h
        · exact .inl h
        · have : v = a := by simpa using h
          exact .inr (this ▸ List.mem_cons_self)
      · exact .inr (List.mem_cons_of_mem _ h)

def bW : Nat → Nat
  | 0 => 1
  | 1 => 2
  | 2 => 21
  | 3 => 76
  | _ => 509
def bC : Nat → Nat
  | 0 => 1
  | 1 => 3
  | 2 => 24
  | 3 => 100
  | _ => 609

theorem come1_ok {x y : α} {ws : List (List α)} (h : ∀ v ∈ ws, v.length ≤ 2) : (come1 x y ws).length ≤ 2 * ws.length ∧ ∀ v ∈ come1 x y ws, v.length ≤ 2 := by
  unfold come1
  refine ⟨?_, fun v hv => ?_⟩
  · have := flatten_bound 2 (ws.map fun w => turned w x y) (fun a ha => by obtain ⟨u, hu, rfl⟩ := List.mem_map.mp ha; exact turned_len (h u hu) x y)
    simpa using this
  · obtain ⟨l, hl, hvl⟩ := List.mem_flatten.mp hv
    obtain ⟨u, hu, rfl⟩ := List.mem_map.mp hl
    have := turned_mem v hvl
    have := h u hu
    omega
theorem come2_ok {sg : List α} (hs : sg.length = 3) {ws : List (List α)} (h : ∀ v ∈ ws, v.length ≤ 2) : (come2 sg ws).length ≤ 17 * ws.length ∧ ∀ v ∈ come2 sg ws, v.length ≤ 2 := by
  unfold come2
  refine ⟨?_, fun v hv => ?_⟩
  · have := flatten_bound 17 (ws.map fun w => moves w sg) (fun a ha => by obtain ⟨u, hu, rfl⟩ := List.mem_map.mp ha; exact moves_len (h u hu) hs)
    simpa using this
  · obtain ⟨l, hl, hvl⟩ := List.mem_flatten.mp hv
    obtain ⟨u, hu, rfl⟩ := List.mem_map.mp hl
    exact moves_mem (h u hu) v hvl

structure WOk (i : Nat) (st : List (List α × Int) × List (List (List α))) : Prop where
  len : st.2.length = i + 1
  row : ∀ (j : Nat) l, st.2[j]? = some l → l.length ≤ bW j ∧ ∀ v ∈ l, v.length ≤ 2
  cl : st.1.length ≤ bC i
theorem WOk.at {i : Nat} {st : List (List α × Int) × List (List (List α))} (h : WOk i st) {j : Nat} (hj : j ≤ i) : st.2[j]? = some (st.2.getD j []) ∧ (st.2.getD j []).length ≤ bW j ∧ ∀ v ∈ st.2.getD j [], v.length ≤ 2 := by
  have hl : j < st.2.length := by rw [h.len]; omega
  have e : st.2[j]? = some (st.2.getD j []) := by simp [List.getD, hl]
  exact ⟨e, h.row j _ e⟩
theorem comes_ok {x y z : α} {i : Nat} (hi : i < 4) {st : List (List α × Int) × List (List (List α))} (h : WOk i st) : (comes x y z (i + 1) st.2).length ≤ bW (i + 1) ∧ ∀ v ∈ comes x y z (i + 1) st.2, v.length ≤ 2 := by
  unfold comes
  have h0 := (h.at (j := i) (Nat.le_refl _)).2
  have c1 := come1_ok (x := x) (y := y) h0.2
  simp only [Nat.add_sub_cancel]
  split
  · have e : i + 1 - 2 = i - 1 := by omega
    rw [e]
    have h1 := (h.at (j := i - 1) (by omega)).2
    have c2 := come2_ok (sg := [x, y, z]) rfl h1.2
    refine ⟨?_, fun v hv => ?_⟩
    · rw [List.length_append]
      have : i = 1 ∨ i = 2 ∨ i = 3 := by omega
      rcases this with rfl | rfl | rfl <;> simp [bW] at * <;> omega
    · rcases List.mem_append.mp hv with hv | hv
      · exact c1.2 v hv
      · exact c2.2 v hv
  · have : i = 0 := by omega
    subst this
    refine ⟨?_, c1.2⟩
    simp [bW] at *
    omega
theorem WOk.step {x y z : α} {i : Nat} (hi : i < 4) {st : List (List α × Int) × List (List (List α))} (h : WOk i st) : WOk (i + 1) (waveStep x y z (i + 1) st) := by
  obtain ⟨c1, c2⟩ := comes_ok (x := x) (y := y) (z := z) hi h
  obtain ⟨f1, f2, f3⟩ := fold_add ((i + 1 : Nat) : Int) (comes x y z (i + 1) st.2) st.1 []
  refine ⟨?_, fun j l e => ?_, ?_⟩
  · simp [waveStep, h.len]
  · simp only [waveStep] at e
    by_cases hj : j < st.2.length
    · rw [List.getElem?_append_left hj] at e
      exact h.row j l e
    · have hj' : j = i + 1 := by
        have := (List.getElem?_eq_some_iff.mp e).1
        rw [List.length_append] at this
        simp at this
        have := h.len
        omega
      subst hj'
      rw [List.getElem?_append_right (by rw [h.len]; exact Nat.le_refl _), h.len] at e
      simp at e
      subst e
      refine ⟨by simp at f2; omega, fun v hv => ?_⟩
      rcases f3 v hv with q | q
      · cases q
      · exact c2 v q
  · simp only [waveStep]
    have := h.cl
    have : i = 0 ∨ i = 1 ∨ i = 2 ∨ i = 3 := by omega
    rcases this with rfl | rfl | rfl | rfl <;> simp [bW, bC] at * <;> omega
theorem wavesAt_ok {x y z : α} {w : List α} (hw : w.length ≤ 2) : ∀ i, i ≤ 4 → WOk i (wavesAt x y z w i)
  | 0, _ => ⟨rfl, fun j l e => by
      rcases j with _ | j
      · simp [wavesAt] at e; subst e
        exact ⟨by simp [bW], fun v hv => by have : v = w := by simpa using hv
                                            exact this ▸ hw⟩
      · simp [wavesAt] at e, by simp [wavesAt, bC]⟩
  | i + 1, hi => (wavesAt_ok hw i (by omega)).step (by omega)
end
end Mine
namespace Mine
open PySem PyProof.Rows PySem.Calls

/-! the same with any letters and prices -/
section
variable {α : Type} [DecidableEq α] (s : α → α → Int)
def stripPG : List α → List α → List α × List α
  | x :: a, y :: b => if x = y then stripPG a b else (x :: a, y :: b)
  | a, b => (a, b)
def stripG (a b : List α) : List α × List α :=
  ((stripPG (stripPG a b).1.reverse (stripPG a b).2.reverse).1.reverse, (stripPG (stripPG a b).1.reverse (stripPG a b).2.reverse).2.reverse)
def innerG (bc : α) : List α → List Int → Int → Int → Int → List Int × Int × Int
  | c :: a, r :: row, d, res, mn =>
    let r' := min (min res r + 2) (d + s bc c)
    let z := innerG bc a row r r' (if r' < mn then r' else mn)
    (r' :: z.1, z.2.1, z.2.2)
  | _, row, _, res, mn => (row, res, mn)
def outerG (a : List α) (m : Int) : List α → Int → List Int → Int → Int
  | [], _, _, res => res
  | c :: b, i, row, _ =>
    let z := innerG s c a row (i * 2) (i * 2) big
    if m < z.2.2 then m + 1 else outerG a m b (i + 1) z.1 z.2.1
def coreG (a b : List α) (m : Int) : Int :=
  if m < ((b.length : Int) - a.length) * 2 then m + 1 else outerG s a m b 0 (rgi 2 2 a.length) 0
def levG (a b : List α) (m : Int) : Int :=
  if a = b then 0 else
  if (stripG a b).1 = [] ∨ (stripG a b).2 = [] then 2 * (((stripG a b).1.length : Int) + (stripG a b).2.length)
  else if (stripG a b).2.length < (stripG a b).1.length then coreG s (stripG a b).2 (stripG a b).1 m else coreG s (stripG a b).1 (stripG a b).2 m
def rightG (w one : List α) (cost bound : Int) : Bool :=
  (levG s one w bound == cost || !(decide (cost - 1 ≤ bound) || (onePiece w one || decide (levG s one w bound ≤ bound)))) && levG s w one 99 == cost
def checkG (x y z : α) : Bool := (words3 [x, y, z]).all fun w => (words3 [x, y, z]).all fun one => atC ((wavesAt x y z w 4).1.lookup one) fun c => (List.range 5).all fun b => rightG s w one c b
end

section
variable {α : Type} [DecidableEq α] {s : α → α → Int} {f : α → Nat} (hf : ∀ a b, f a = f b → a = b) (hs : ∀ a b, sc (f a) (f b) = s a b)
include hf

theorem map_inj {a b : List α} : a.map f = b.map f ↔ a = b := by
  constructor
  · intro h
    induction a generalizing b with
    | nil => cases b with
      | nil => rfl
      | cons _ _ => simp at h
    | cons x a ih => cases b with
      | nil => simp at h
      | cons y b =>
        simp only [List.map_cons, List.cons.injEq] at h
        rw [hf x y h.1, ih h.2]
  · rintro rfl; rfl
theorem stripP_map : ∀ a b : List α, stripP (a.map f) (b.map f) = ((stripPG a b).1.map f, (stripPG a b).2.map f)
  | x :: a, y :: b => by
    simp only [List.map_cons]
    unfold stripP stripPG
    by_cases h : x = y
    · subst h; rw [if_pos rfl, if_pos rfl, stripP_map a b]
    · rw [if_neg h, if_neg fun e => h (hf x y e)]; rfl
  | [], b => by cases b <;> simp [stripP, stripPG]
  | _ :: _, [] => by simp [stripP, stripPG]
theorem strip_map (a b : List α) : strip (a.map f) (b.map f) = ((stripG a b).1.map f, (stripG a b).2.map f) := by
  unfold strip stripG
  simp only [stripP_map hf, ← List.map_reverse]
include hs
omit hf in
theorem inner_map (bc : α) : ∀ (a : List α) (row : List Int) (d res mn : Int), inner (f bc) (a.map f) row d res mn = innerG s bc a row d res mn
  | c :: a, r :: row, d, res, mn => by
    simp only [List.map_cons]
    unfold inner innerG
    simp only [hs, inner_map bc a]
  | [], row, d, res, mn => by cases row <;> simp [inner, innerG]
  | _ :: _, [], d, res, mn => by simp [inner, innerG]
omit hf in
theorem outer_map (a : List α) (m : Int) : ∀ (b : List α) (i : Int) (row : List Int) (res : Int), outer (a.map f) m (b.map f) i row res = outerG s a m b i row res
  | [], _, _, _ => rfl
  | c :: b, i, row, res => by
    simp only [List.map_cons]
    unfold outer outerG
    simp only [inner_map hs, outer_map a m b]
omit hf in
theorem core_map (a b : List α) (m : Int) : core (a.map f) (b.map f) m = coreG s a b m := by
  unfold core coreG
  simp only [List.length_map, outer_map hs]
theorem lev_map (a b : List α) (m : Int) : lev (a.map f) (b.map f) m = levG s a b m := by
  unfold lev levG
  simp only [map_inj hf, strip_map hf, core_map hs, List.map_eq_nil_iff, List.length_map]
omit hs
theorem onePiece_map (a b : List α) : onePiece (a.map f) (b.map f) = onePiece a b := by
  unfold onePiece
  simp only [List.length_map]
  split
  · simp only [List.length_map, ← List.map_take, ← List.map_drop, ← List.map_append]
    congr 1
    funext k
    rw [Bool.eq_iff_iff, beq_iff_eq, beq_iff_eq, map_inj hf]
  · simp only [List.length_map, ← List.map_take, ← List.map_drop, ← List.map_append]
    congr 1
    funext k
    rw [Bool.eq_iff_iff, beq_iff_eq, beq_iff_eq, map_inj hf]
include hs
theorem right_map (a b : List α) (c m : Int) : right2 (a.map f) (b.map f) c m = rightG s a b c m := by
  unfold right2 rightG
  rw [lev_map hf hs, lev_map hf hs, onePiece_map hf]
omit hs

/-! the waves -/
omit hf in
theorem moves_map (w sg : List α) : moves (w.map f) (sg.map f) = (moves w sg).map (List.map f) := by
  unfold moves mvOut mvOver mvInto
  simp only [List.length_map, List.map_append, List.map_map, List.map_flatten]
  congr 1
  · congr 1
    · apply List.map_congr_left; intro k _; simp
    · congr 1; apply List.map_congr_left; intro k _
      simp only [Function.comp, List.map_map]
      apply List.map_congr_left; intro c _; simp
  · congr 1; apply List.map_congr_left; intro k _
    simp only [Function.comp, List.map_map, List.map_flatten]
    congr 1; apply List.map_congr_left; intro c _
    simp only [Function.comp]
    split <;> simp
theorem turn1_map (x y c : α) : turn1 (f x) (f y) (f c) = (turn1 x y c).map f := by
  unfold turn1
  by_cases h : c = x
  · subst h; simp
  · rw [if_neg h, if_neg fun e => h (hf _ _ e)]
    by_cases h' : c = y
    · subst h'; simp
    · rw [if_neg h', if_neg fun e => h' (hf _ _ e)]; rfl
theorem turned_map (w : List α) (x y : α) : turned (w.map f) (f x) (f y) = (turned w x y).map (List.map f) := by
  unfold turned
  simp only [List.length_map, List.map_flatten, List.map_map]
  congr 1; apply List.map_congr_left; intro k _
  simp only [Function.comp]
  unfold turnAt
  rw [List.getElem?_map]
  cases w[k]? with
  | none => rfl
  | some c =>
    simp only [Option.map_some, turn1_map hf]
    cases turn1 x y c with
    | none => rfl
    | some d => simp
def mp (f : α → Nat) (kc : List (List α × Int)) : List (List Nat × Int) := kc.map fun p => (p.1.map f, p.2)
theorem lookup_mp (k : List α) : ∀ kc : List (List α × Int), (mp f kc).lookup (k.map f) = kc.lookup k
  | [] => rfl
  | (a, c) :: kc => by
    show List.lookup (k.map f) ((a.map f, c) :: mp f kc) = _
    rw [List.lookup_cons, List.lookup_cons, lookup_mp k kc]
    have e : (k.map f == a.map f) = (k == a) := by rw [Bool.eq_iff_iff, beq_iff_eq, beq_iff_eq, map_inj hf]
    rw [e]
theorem addOne_map (cost : Int) (kc : List (List α × Int)) (ws : List (List α)) (one : List α) :
    addOne cost (mp f kc, ws.map (List.map f)) (one.map f) = (mp f (addOne cost (kc, ws) one).1, (addOne cost (kc, ws) one).2.map (List.map f)) := by
  unfold addOne
  simp only [lookup_mp hf]
  split
  · rfl
  · simp [mp]
theorem fold_map (cost : Int) : ∀ (l : List (List α)) (kc : List (List α × Int)) (ws : List (List α)),
    (l.map (List.map f)).foldl (addOne cost) (mp f kc, ws.map (List.map f)) = (mp f (l.foldl (addOne cost) (kc, ws)).1, (l.foldl (addOne cost) (kc, ws)).2.map (List.map f))
  | [], kc, ws => rfl
  | a :: l, kc, ws => by
    rw [List.map_cons, List.foldl_cons, List.foldl_cons, addOne_map hf]
    exact fold_map cost l _ _
theorem comes_map (x y z : α) (cost : Nat) (waves : List (List (List α))) : comes (f x) (f y) (f z) cost (waves.map (List.map (List.map f))) = (comes x y z cost waves).map (List.map f) := by
  have hg : ∀ n, (waves.map (List.map (List.map f))).getD n [] = (waves.getD n []).map (List.map f) := by
    intro n
    simp only [List.getD, List.getElem?_map]
    cases waves[n]? <;> rfl
  have c1 : ∀ ws : List (List α), come1 (f x) (f y) (ws.map (List.map f)) = (come1 x y ws).map (List.map f) := by
    intro ws
    unfold come1
    simp only [List.map_map, List.map_flatten]
    congr 1; apply List.map_congr_left; intro v _
    exact turned_map hf v x y
  have c2 : ∀ ws : List (List α), come2 [f x, f y, f z] (ws.map (List.map f)) = (come2 [x, y, z] ws).map (List.map f) := by
    intro ws
    unfold come2
    simp only [List.map_map, List.map_flatten]
    congr 1; apply List.map_congr_left; intro v _
    exact moves_map v [x, y, z]
  unfold comes
  simp only [hg, c1, c2]
  split <;> simp
theorem waves_map (x y z : α) (w : List α) : ∀ n, wavesAt (f x) (f y) (f z) (w.map f) n = (mp f (wavesAt x y z w n).1, (wavesAt x y z w n).2.map (List.map (List.map f)))
  | 0 => rfl
  | n + 1 => by
    unfold wavesAt
    rw [waves_map x y z w n]
    unfold waveStep
    simp only [comes_map hf]
    have := fold_map hf ((n + 1 : Nat) : Int) (comes x y z (n + 1) (wavesAt x y z w n).2) (wavesAt x y z w n).1 []
    simp only [List.map_nil] at this
    rw [this]
    simp
include hs
theorem turn_map (x y z : α) (w one : List α) :
    (atC ((wavesAt (f x) (f y) (f z) (w.map f) 4).1.lookup (one.map f)) fun c => (List.range 5).all fun b => right2 (w.map f) (one.map f) c b) =
    (atC ((wavesAt x y z w 4).1.lookup one) fun c => (List.range 5).all fun b => rightG s w one c b) := by
  rw [waves_map hf, lookup_mp hf]
  simp only [right_map hf hs]
omit hf hs in
theorem all_all_map {p : List Nat → List Nat → Bool} {q : List α → List α → Bool} (h : ∀ w one, p (w.map f) (one.map f) = q w one) (l l' : List (List α)) :
    ((l.map (List.map f)).all fun w => (l'.map (List.map f)).all fun one => p w one) = (l.all fun w => l'.all fun one => q w one) := by
  simp only [List.all_map, Function.comp_def, h]
omit hf hs in
theorem words3_map (x y z : α) : words3 [f x, f y, f z] = (words3 [x, y, z]).map (List.map f) := by simp [words3, grow]
theorem check_map (x y z : α) : check2 (f x) (f y) (f z) = checkG s x y z := by
  unfold check2 checkG
  rw [words3_map]
  exact all_all_map (f := f) (p := fun w one => atC ((wavesAt (f x) (f y) (f z) w 4).1.lookup one) fun c => (List.range 5).all fun b => right2 w one c b)
    (q := fun w one => atC ((wavesAt x y z w 4).1.lookup one) fun c => (List.range 5).all fun b => rightG s w one c b) (fun w one => turn_map hf hs x y z w one) (words3 [x, y, z]) (words3 [x, y, z])
end

def s3 (i j : Fin 3) : Int := if i = j then 0 else if i.val < 2 ∧ j.val < 2 then 1 else 2
theorem check3 : checkG s3 0 1 2 = true := by decide +kernel
theorem check_all {x y z : Nat} (h1 : x ≠ y) (h2 : z ≠ x) (h3 : z ≠ y) (l1 : lo1 x = lo1 y) (l2 : lo1 z ≠ lo1 x) : check2 x y z = true := by
  have hf : ∀ a b : Fin 3, [x, y, z][a] = [x, y, z][b] → a = b := by
    intro a b
    match a, b with
    | 0, 0 => simp
    | 0, 1 => intro h; exact absurd h h1
    | 0, 2 => intro h; exact absurd h.symm h2
    | 1, 0 => intro h; exact absurd h.symm h1
    | 1, 1 => simp
    | 1, 2 => intro h; exact absurd h.symm h3
    | 2, 0 => intro h; exact absurd h h2
    | 2, 1 => intro h; exact absurd h h3
    | 2, 2 => simp
  have hs : ∀ a b : Fin 3, sc [x, y, z][a] [x, y, z][b] = s3 a b := by
    intro a b
    match a, b with
    | 0, 0 => simp [sc, s3]
    | 0, 1 => show sc x y = 1; simp [sc, h1, l1]
    | 0, 2 => show sc x z = 2; simp [sc, Ne.symm h2, Ne.symm l2]
    | 1, 0 => show sc y x = 1; simp [sc, Ne.symm h1, l1]
    | 1, 1 => simp [sc, s3]
    | 1, 2 => show sc y z = 2; rw [l1] at l2; simp [sc, Ne.symm h3, Ne.symm l2]
    | 2, 0 => show sc z x = 2; simp [sc, h2, l2]
    | 2, 1 => show sc z y = 2; rw [l1] at l2; simp [sc, h3, l2]
    | 2, 2 => simp [sc, s3]
  have := check_map (f := fun i : Fin 3 => [x, y, z][i]) hf hs 0 1 2
  have e : check2 x y z = checkG s3 0 1 2 := this
  rw [e]; exact check3
end Mine
namespace Mine
open PySem PyProof.Rows PySem.Calls

structure W2 (mg mb : Str → Option Value) (base : Heap) : Prop extends W0 mg mb base where
  fwords : ∃ f, FnAt mg base "_law_words" (fargs 7) (fbody 7) (fscope 7) f
  fmoves : ∃ f, FnAt mg base "_law_moves" (fargs 8) (fbody 8) (fscope 8) f
  fturned : ∃ f, FnAt mg base "_law_turned" (fargs 9) (fbody 9) (fscope 9) f
  fwaves : ∃ f, FnAt mg base "_law_waves" (fargs 10) (fbody 10) (fscope 10) f
  fpiece : ∃ f, FnAt mg base "_law_one_piece" (fargs 11) (fbody 11) (fscope 11) f
  fright : ∃ f, FnAt mg base "_law_right" (fargs 12) (fbody 12) (fscope 12) f
  nsum : mg "sum" = none
theorem W2.mono {mg mb : Str → Option Value} {h h' : Heap} (x : W2 mg mb h) (k : Kp h h') : W2 mg mb h' :=
  ⟨x.toW0.mono k, let ⟨f, y⟩ := x.fwords; ⟨f, y.mono k⟩, let ⟨f, y⟩ := x.fmoves; ⟨f, y.mono k⟩, let ⟨f, y⟩ := x.fturned; ⟨f, y.mono k⟩, let ⟨f, y⟩ := x.fwaves; ⟨f, y.mono k⟩, let ⟨f, y⟩ := x.fpiece; ⟨f, y.mono k⟩, let ⟨f, y⟩ := x.fright; ⟨f, y.mono k⟩, x.nsum⟩

/-- this very list -/
def vla (a : Addr) (Ps : List VP) : VP := ⟨fun h v => v = .ref a ∧ (vl Ps).p h (.ref a), fun _ _ _ k ⟨e, x⟩ => ⟨e, VP.up _ _ _ _ k x⟩⟩

section
variable {prog : Program} {w : World} {base : Heap} {A : Around} {mg mb : Str → Option Value} {E : Value → Shared → Prop} {s₀ s : Shared} {env : Env} {G : List (Str × VP)}

theorem PE.knownA {e : Expr} {a : Addr} {Ps : List VP} (h : PE prog w base A env G e (vr a)) (hr : (vl Ps).p base (.ref a)) : PE prog w base A env G e (vla a Ps) := by
  intro s Q E hb hv k
  refine h s Q E hb hv fun v h' tk kk r => ?_
  have e1 : v = .ref a := r
  subst e1
  exact k _ h' tk kk ⟨rfl, VP.up _ _ _ _ (hb.tr kk) hr⟩

/-- the second clause goes through the signs -/
theorem Cl2.signs {cenv : Env} {base' : Heap} {a : Addr} {sg : List Nat} {p : Pos} {ifs2 : List Expr} {elt : Expr} (hA : OkA A 989) (hce : CE cenv) (hS : (vl (sv sg)).p base' (.ref a)) (hg : G.lookup ("signs" : Str) = some (vr a)) (outs2 : List (List VP)) (hlen : outs2.length = sg.length)
    (el : ∀ (base3 : Heap) (j c : Nat) (out2 : List VP), Kp base' base3 → sg[j]? = some c → outs2[j]? = some out2 → Tn prog w base3 A cenv (("sign", vs (S [c])) :: G) ifs2 elt out2) :
    Cl2 prog w A cenv base' G "sign" (.Name "signs" p) ifs2 elt outs2.flatten := by
  intro base'' kb
  refine ⟨vla a (sv sg), sv sg, outs2, PE.knownA (PE.name hce.toEnvOk hg rfl) (VP.up _ _ _ _ kb hS), ?_, sv_flat sg, rfl, by simp [sv, hlen], ?_⟩
  · rintro h v mu ⟨rfl, a', us, e, hl, hx⟩ hmu
    cases e
    refine it_list hA.h hl hx fun hm => ?_
    obtain ⟨a2, us2, e2, ⟨o, ho, _⟩, _⟩ := hS
    cases e2
    rw [(hmu _ hm).1] at ho; cases ho
  · intro base3 j R2 out2 kb3 hR2 hout2
    obtain ⟨c, hc, rfl⟩ := sv_get hR2
    exact el base3 j c out2 kb3 hc hout2

def growN (sg : List Nat) : Nat → List (List Nat)
  | 0 => [[]]
  | n + 1 => grow sg n (growN sg n)
theorem growN_two (sg : List Nat) : growN sg 2 = words3 sg := rfl
theorem growN_len {sg : List Nat} (h : sg.length = 3) : ∀ i, i ≤ 2 → (growN sg i).length ≤ 13 := by
  intro i hi
  obtain ⟨x, y, z, rfl⟩ : ∃ x y z, sg = [x, y, z] := by
    rcases sg with _ | ⟨x, _ | ⟨y, _ | ⟨z, _ | ⟨u, r⟩⟩⟩⟩ <;> simp at h
    exact ⟨x, y, z, rfl⟩
  have : i = 0 ∨ i = 1 ∨ i = 2 := by omega
  rcases this with rfl | rfl | rfl <;> simp [growN, grow]
theorem growN_mem {sg : List Nat} : ∀ i, ∀ v ∈ growN sg i, v.length ≤ i ∧ ∀ c ∈ v, c ∈ sg
  | 0, v, hv => by simp [growN] at hv; subst hv; simp
  | i + 1, v, hv => by
    unfold growN grow at hv
    rcases List.mem_append.mp hv with hv | hv
    · have := growN_mem i v hv; exact ⟨by omega, this.2⟩
    · obtain ⟨l, hl, hvl⟩ := List.mem_flatten.mp hv
      obtain ⟨u, hu, rfl⟩ := List.mem_map.mp hl
      split at hvl
      · rename_i hul
        obtain ⟨c, hc, rfl⟩ := List.mem_map.mp hvl
        have := growN_mem i u hu
        refine ⟨by simp; omega, fun d hd => ?_⟩
        rcases List.mem_append.mp hd with hd | hd
        · exact this.2 d hd
        · have : d = c := by simpa using hd
          exact this ▸ hc
      · cases hvl

abbrev wordsIn : List Stmt := forBody (fbody 7)[1]?

theorem words_body (W : W2 mg mb base) (hA : OkA A 989) (he : env.scope = fscope 7) (fe : FEnv env) {sg : List Nat} (hl : sg.length = 3) (hb : Kp base s₀.heap)
    (F : Fs s₀ env [("signs", vl (sv sg))] s) :
    wpAny (model prog w) A (execs (fbody 7) env) (Ret s₀ (vl (wv (words3 sg)))) E s := by
  have ok := fe.toEnvOk
  have sqs : Sq (vl (sv sg)) := sq_vl fun P hP => (sv_flat _ P hP).sq
  refine ex_assign (base := base) (P := vl (wv [[]])) fe (hb.tr F.keep) F (kdl he (.inl rfl)) rfl (sq_vl fun P hP => (wv_flat _ P hP).sq) (PE.list (PA.cons (PE.cstr.congr (by rw [show Str.ofString "" = S [] by decide +kernel])) PA.nil rfl) (by show 1 ≤ _; decide)) ?_
  intro h1 t1 k1 F1
  refine ex_for (base := base) fe (hb.tr F1.keep) F1 (fa env) ((rgi 0 1 2).map vi)
    (PE.tcall he ok W.B W.nrange rfl rfl (by decide) rfl do_range1 (PA.cons PE.cint PA.nil rfl) rfl)
    (fun h' v _ hv => it_range hA.h hv (small0 (n := 2) rfl (by decide)) (rsize0 (n := 2) rfl)) (flat_vis _) (fun b hb => let ⟨o, e, _⟩ := F1.fa_some b hb; ⟨o, e⟩) (fun b hb => F1.fa_fresh b hb)
    (fun i s' => i ≤ 2 ∧ Fs s₀ env [("words", vl (wv (growN sg i))), ("signs", vl (sv sg))] s')
    ?_ ?_ ?_ ?_ (by intro x; rfl)
  · intro h' tk kp F'
    exact ⟨Nat.zero_le _, F'⟩
  · rintro i s' h' tk ⟨hi, F'⟩ kn k0
    exact ⟨hi, F'.kn kn k0⟩
  · rintro i Rv s' v E' hR hRv ⟨hi, F'⟩ kx hsame
    obtain ⟨hlt, rfl⟩ := rgi01_get hR
    refine store_ fe F' (kdl he (.inr rfl)) hRv (flat_vi _).sq fun h2 t2 k2 F2 => ?_
    obtain ⟨vS, hS, hnS⟩ := F2.named (x := "signs") rfl
    obtain ⟨a, us, rfl, hus⟩ := id hS
    have F3 := hnS (vr a) (flat_vr _).sq rfl
    have W3 := W.mono (hb.tr F3.keep)
    have hws := growN_len hl i hi
    have hwm := growN_mem (sg := sg) i
    have hflen : (((growN sg i).map fun v => if v.length = i then sg.map fun c => v ++ [c] else []).flatten).length ≤ 200 := by
      have h3 := growN_len hl (i + 1) (by omega)
      unfold growN grow at h3
      rw [List.length_append] at h3
      omega
    refine ex_assign (base := h2) (P := vl (wv (growN sg (i + 1)))) fe Kp.rf F3 (kdl he (.inl rfl)) rfl (sq_vl fun P hP => (wv_flat _ P hP).sq)
      ((PE.bin (PE.name ok rfl rfl) (((PC.comp2 (wv (growN sg i)) (((growN sg i).map fun v => if v.length = i then sg.map fun c => v ++ [c] else []).map wv) (F3.ce fe) ⟨by decide, rfl, by decide, by decide⟩
        (PE.name ok rfl rfl) (fun h v hv => it_vl hA.h hv) (wv_flat _) (fun _ => [("signs", vr a), ("size", vi (i : Int))]) (fun h₁ _ => gf_same ?_ h₁) (free_of ["signs", "size"] (by decide) ?_) rfl rfl rfl (by simp [wv]) ?_ ?_ ?_).pe (sq_vlp ?_)).weaken
          (R' := vl (wv ((growN sg i).map fun v => if v.length = i then sg.map fun c => v ++ [c] else []).flatten)) (fun _ _ x => by rw [← wv_flatten] at x; exact vlp_vl x)) (ob_addl ?_)).weaken (fun _ _ x => by rw [← wv_app] at x; exact vlp_vl x)) ?_
    · intro p hp
      simp only [List.mem_cons, List.not_mem_nil, or_false] at hp
      rcases hp with rfl | rfl
      · exact ⟨flat_vr _, rfl, rfl⟩
      · exact ⟨flat_vi _, rfl, rfl⟩
    · intro y hy
      simp only [List.mem_cons, List.not_mem_nil, or_false] at hy
      rcases hy with rfl | rfl
      · exact ⟨ne_local (kd he rfl : env.kindOf _ = some .cell) (by decide), _, rfl⟩
      · exact ⟨ne_local (kd he rfl : env.kindOf _ = some .cell) (by decide), _, rfl⟩
    · intro o ho P hP
      obtain ⟨l, _, rfl⟩ := List.mem_map.mp ho
      exact wv_flat _ P hP
    · rw [← wv_flatten]
      simp only [wv, List.length_map]
      exact Nat.le_trans hflen (by decide)
    · intro base' cenv j R out kb hce hkn hR hout
      obtain ⟨v, hv, rfl⟩ := wv_get hR
      have okc := hce.toEnvOk
      have hvm := hwm v (List.mem_of_getElem? hv)
      have ho : out = wv (if v.length = i then sg.map fun c => v ++ [c] else []) := by
        rw [List.getElem?_map, List.getElem?_map, hv] at hout
        simpa using hout.symm
      subst ho
      refine ⟨decide (v.length = i), fun base'' kb'' => ?_, fun hd => ?_, fun hd => ?_⟩
      · have Wc := W3.mono (kb.tr kb'')
        refine PT.congr (PT.cmp (PE.lens okc Wc.B Wc.nlen (by omega) (hkn.g rfl) (PE.name okc rfl rfl) rfl) (PE.name okc rfl rfl) oc_eq rfl) ?_
        rw [Bool.eq_iff_iff, beq_iff_eq, decide_eq_true_iff]; omega
      · have hd' := of_decide_eq_true hd
        rw [if_pos hd']
        rw [wv_single]
        refine Cl2.signs hA hce (VP.up _ _ _ _ kb hS) rfl _ (by simp) fun base3 q c out2 kb3 hc hout2 => ?_
        rw [List.getElem?_map, hc] at hout2
        have e2 : out2 = [vs (S (v ++ [c]))] := by simpa using hout2.symm
        subst e2
        exact ⟨true, rfl, fun _ => ⟨_, rfl, PE.bin (PE.name okc rfl rfl) (PE.name okc rfl rfl) (ob_adds (by simp; exact Nat.le_trans (by omega : v.length + 1 ≤ 100) (by decide)))⟩, fun h => nomatch h⟩
      · have hd' := of_decide_eq_false hd
        rw [if_neg hd']; rfl
    · intro P hP
      obtain ⟨o, ho, hPo⟩ := List.mem_flatten.mp hP
      obtain ⟨l, _, rfl⟩ := List.mem_map.mp ho
      exact (wv_flat _ P hPo).sq
    · simp only [wv, List.length_map]
      exact Nat.le_trans (by omega : _ ≤ 300) (by decide)
    intro h4 t4 k4 F4
    obtain ⟨vS', hS', hnS'⟩ := F4.named (x := "signs") rfl
    have e : vS' = .ref a := hS'
    subst e
    have F5 := hnS' (vl (sv sg)) sqs (sqs _ _ _ k4.ks hS)
    exact ex_nil ⟨⟨hlt, F5.sl ⟨rfl, rfl, trivial⟩⟩, k2.kx.tr k4.kx, F5.same⟩
  · rintro s' ⟨hi, F'⟩ kx hsame
    refine ex_ret (base := base) fe (hb.tr F'.keep) F' (PE.name ok rfl rfl) fun v h6 t6 k6 p => F'.ret k6 ?_
    exact p

theorem c_words (W : W2 mg mb base) (hA : OkA A 988) {f : Addr} (hf : FnAt mg base "_law_words" (fargs 7) (fbody 7) (fscope 7) f) {sg : List Nat} (hl : sg.length = 3) :
    Does prog w base A (.ref f) [vl (sv sg)] (vl (wv (words3 sg))) := by
  refine does_def ["signs"] W.B hf (hA.room (by decide)) ?_ rfl (by decide) (by decide) (by
    intro P hP; simp at hP; subst hP; exact sq_vl fun P hP => (sv_flat _ P hP).sq) ?_
  · intro pm code doc us h
    rcases us with _ | ⟨x, _ | ⟨y, us⟩⟩ <;> simp at h
    rfl
  intro s₀ s env E he fe hb0 F
  exact words_body W (hA.deeper env) he fe hl hb0 F
end
end Mine
namespace Mine
open PySem PyProof.Rows PySem.Calls

theorem zline {n : Nat} (h : n ≤ 1000) : n ≤ sizeLine := Nat.le_trans h (by decide)
theorem flat_wvs (outs : List (List (List Nat))) : ∀ o ∈ outs.map wv, ∀ P ∈ o, Flat P := by
  intro o ho P hP
  obtain ⟨l, _, rfl⟩ := List.mem_map.mp ho
  exact wv_flat _ P hP
theorem sq_wvs (outs : List (List (List Nat))) : ∀ P ∈ (outs.map wv).flatten, Sq P := by
  intro P hP
  rw [← wv_flatten] at hP
  exact (wv_flat _ P hP).sq

section
variable {prog : Program} {w : World} {base : Heap} {A : Around} {mg mb : Str → Option Value} {E : Value → Shared → Prop} {s₀ s : Shared} {env : Env} {G : List (Str × VP)}

theorem PE.upto {value e : Expr} {p pos : Pos} {l : List Nat} {k : Nat} (hz : l.length ≤ 1000) (hv : PE prog w base A env G value (vs (S l))) (he : PE prog w base A env G e (vi (k : Int))) (ht : ∀ o r, letTemporaryGo value o r = pure ()) :
    PE prog w base A env G (.Subscript value (.Slice none (some e) none p) pos) (vs (S (l.take k))) :=
  (PE.sl (zline hz) hv PO.none (PO.some he) ht).congr (by rw [show cut l none (some (k : Int)) = cutL l none (some (k : Int)) from rfl, cutL_to])
theorem PE.off {value e : Expr} {p pos : Pos} {l : List Nat} {k : Nat} (hz : l.length ≤ 1000) (hv : PE prog w base A env G value (vs (S l))) (he : PE prog w base A env G e (vi (k : Int))) (ht : ∀ o r, letTemporaryGo value o r = pure ()) :
    PE prog w base A env G (.Subscript value (.Slice (some e) none none p) pos) (vs (S (l.drop k))) :=
  (PE.sl (zline hz) hv (PO.some he) PO.none ht).congr (by rw [show cut l (some (k : Int)) none = cutL l (some (k : Int)) none from rfl, cutL_from])
theorem PE.adds {l r : Expr} {pos : Pos} {a b : List Nat} (hz : a.length + b.length ≤ 1000) (hl : PE prog w base A env G l (vs (S a))) (hr : PE prog w base A env G r (vs (S b))) : PE prog w base A env G (.BinOp l .Add r pos) (vs (S (a ++ b))) :=
  PE.bin hl hr (ob_adds (zline hz))

/-- Gf for word and signs -/
theorem gfWS {scope : Scope} {a : Addr} {wd : List Nat} (h1 : scope.names.lookup ("word" : Str) = some .free) (h2 : scope.names.lookup ("signs" : Str) = some .free) (g1 : G.lookup ("word" : Str) = some (vs (S wd))) (g2 : G.lookup ("signs" : Str) = some (vr a)) :
    ∀ p ∈ ([("word", vs (S wd)), ("signs", vr a)] : List (Str × VP)), Flat p.2 ∧ scope.names.lookup p.1 = some .free ∧ G.lookup p.1 = some p.2 := by
  intro p hp
  simp only [List.mem_cons, List.not_mem_nil, or_false] at hp
  rcases hp with rfl | rfl
  · exact ⟨flat_vs _, h1, g1⟩
  · exact ⟨flat_vr _, h2, g2⟩

theorem moves_body (W : W2 mg mb base) (hA : OkA A 989) (he : env.scope = fscope 8) (fe : FEnv env) {wd sg : List Nat} (hl : sg.length = 3) (hw : wd.length ≤ 2) (hb : Kp base s₀.heap)
    (F : Fs s₀ env [("word", vs (S wd)), ("signs", vl (sv sg))] s) :
    wpAny (model prog w) A (execs (fbody 8) env) (Ret s₀ (vlp base (wv (moves wd sg)))) E s := by
  have ok := fe.toEnvOk
  have sqs : Sq (vl (sv sg)) := sq_vl fun P hP => (sv_flat _ P hP).sq
  have sqw : ∀ ws, Sq (vl (wv ws)) := fun ws => sq_vl fun P hP => (wv_flat _ P hP).sq
  obtain ⟨vS, hS, hnS⟩ := F.named (x := "signs") rfl
  obtain ⟨a, us, rfl, hus⟩ := id hS
  have F0 := (hnS (vr a) (flat_vr _).sq rfl).sl (G' := [("word", vs (S wd)), ("signs", vr a)]) ⟨rfl, rfl, trivial⟩
  have W0 := W.mono (hb.tr F0.keep)
  have kcw : env.kindOf "word" = some .cell := kd he rfl
  have kcs : env.kindOf "signs" = some .cell := kd he rfl
  -- out
  refine ex_assignC (base := s.heap) fe Kp.rf F0 (kd he rfl) (swaps_yes fe (kd he rfl) rfl) (P := vl (wv (mvOut wd))) (sqw _)
    ((PC.comp1 ((rgi 0 1 wd.length).map vi) ((mvOut wd).map fun v => [vs (S v)]) (F0.ce fe) ⟨by decide, rfl, by decide, by decide⟩
      (PE.tcall he ok W0.B W0.nrange rfl rfl (by decide) rfl do_range1 (PA.cons (PE.len_s he ok W0.B W0.nlen (by omega) rfl (PE.name ok rfl rfl) rfl) PA.nil rfl) rfl)
      (fun h v hv => it_range hA.h hv (small01 (by omega)) (rsize01 _)) (flat_vis _) (fun _ => [("word", vs (S wd))]) (fun h₁ _ => gf_same ?_ h₁) (free_of ["word"] (by decide) ?_) (.inl rfl)
      (by simp [mvOut, rgi]) ?_ ?_ ?_).weaken (fun _ _ x => by have e := wv_single id (mvOut wd); simp only [List.map_id, id] at e; rw [← e] at x; exact vlp_vl x)) ?_
  · intro p hp
    simp only [List.mem_cons, List.not_mem_nil, or_false] at hp
    subst hp
    exact ⟨flat_vs _, rfl, rfl⟩
  · intro y hy
    simp only [List.mem_cons, List.not_mem_nil, or_false] at hy
    subst hy
    exact ⟨ne_local kcw (by decide), _, rfl⟩
  · intro o ho P hP
    obtain ⟨l, _, rfl⟩ := List.mem_map.mp ho
    simp at hP; subst hP; exact flat_vs _
  · refine zline ?_
    have e := wv_single id (mvOut wd); simp only [List.map_id, id] at e; rw [← e]
    simp [wv, mvOut]; omega
  · intro b1 cenv b2 i R out kb1 hce hkn kb2 hR hout
    obtain ⟨hi, rfl⟩ := rgi01_get hR
    have okc := hce.toEnvOk
    have eo : out = [vs (S (wd.take i ++ wd.drop (i + 1)))] := by
      unfold mvOut at hout
      rw [List.getElem?_map, List.getElem?_map, List.getElem?_range hi] at hout
      simpa using hout.symm
    subst eo
    exact ⟨true, rfl, fun _ => ⟨_, rfl, PE.adds (by simp; omega) (PE.upto (by omega) (PE.name okc rfl rfl) (PE.name okc rfl rfl) (by intro _ _; rfl)) (PE.off (k := i + 1) (by omega) (PE.name okc rfl rfl) (PE.bin (PE.name okc rfl rfl) PE.cint ob_add) (by intro _ _; rfl))⟩, fun h => nomatch h⟩
  intro h1 t1 k1 F1
  have hS1 : (vl (sv sg)).p h1 (.ref a) := sqs _ _ _ k1.ks hS
  have W1 := W.mono (hb.tr F1.keep)
  -- over
  refine ex_assignC (base := h1) fe Kp.rf F1 (kd he rfl) (swaps_yes fe (kd he rfl) rfl) (P := vl (wv (mvOver wd sg))) (sqw _)
    ((PC.comp2 ((rgi 0 1 wd.length).map vi) (((List.range wd.length).map fun k => sg.map fun c => wd.take k ++ [c] ++ wd.drop (k + 1)).map wv) (F1.ce fe) ⟨by decide, rfl, by decide, by decide⟩
      (PE.tcall he ok W1.B W1.nrange rfl rfl (by decide) rfl do_range1 (PA.cons (PE.len_s he ok W1.B W1.nlen (by omega) rfl (PE.name ok rfl rfl) rfl) PA.nil rfl) rfl)
      (fun h v hv => it_range hA.h hv (small01 (by omega)) (rsize01 _)) (flat_vis _) (fun _ => [("word", vs (S wd)), ("signs", vr a)]) (fun h₁ _ => gf_same (gfWS rfl rfl rfl rfl) h₁) (free_of ["signs", "word"] (by decide) ?_) rfl rfl rfl
      (by simp [rgi]) (flat_wvs _) ?_ ?_).weaken (fun _ _ x => by rw [← wv_flatten] at x; exact vlp_vl x)) ?_
  · intro y hy
    simp only [List.mem_cons, List.not_mem_nil, or_false] at hy
    rcases hy with rfl | rfl
    · exact ⟨ne_local kcs (by decide), _, rfl⟩
    · exact ⟨ne_local kcw (by decide), _, rfl⟩
  · rw [← wv_flatten]
    refine zline ?_
    simp only [wv, List.length_map, List.length_flatten, List.map_map]
    exact Nat.le_trans (over_len hl hw) (by decide)
  · intro base' cenv i R out kb hce hkn hR hout
    obtain ⟨hi, rfl⟩ := rgi01_get hR
    have okc := hce.toEnvOk
    have eo : out = wv (sg.map fun c => wd.take i ++ [c] ++ wd.drop (i + 1)) := by
      rw [List.getElem?_map, List.getElem?_map, List.getElem?_range hi] at hout
      simpa using hout.symm
    subst eo
    refine ⟨true, fun _ _ => rfl, fun _ => ?_, fun h => nomatch h⟩
    rw [wv_single]
    refine Cl2.signs hA hce (VP.up _ _ _ _ kb hS1) rfl _ (by simp) fun base3 q c out2 kb3 hc hout2 => ?_
    rw [List.getElem?_map, hc] at hout2
    have e2 : out2 = [vs (S (wd.take i ++ [c] ++ wd.drop (i + 1)))] := by simpa using hout2.symm
    subst e2
    exact ⟨true, rfl, fun _ => ⟨_, rfl, PE.adds (by simp; omega) (PE.adds (by simp; omega) (PE.upto (by omega) (PE.name okc rfl rfl) (PE.name okc rfl rfl) (by intro _ _; rfl)) (PE.name okc rfl rfl)) (PE.off (k := i + 1) (by omega) (PE.name okc rfl rfl) (PE.bin (PE.name okc rfl rfl) PE.cint ob_add) (by intro _ _; rfl))⟩, fun h => nomatch h⟩
  intro h2 t2 k2 F2
  have hS2 : (vl (sv sg)).p h2 (.ref a) := sqs _ _ _ k2.ks hS1
  have W2' := W.mono (hb.tr F2.keep)
  -- into
  refine ex_assignC (base := h2) fe Kp.rf F2 (kd he rfl) (swaps_yes fe (kd he rfl) rfl) (P := vl (wv (mvInto wd sg))) (sqw _)
    ((PC.comp2 ((rgi 0 1 (wd.length + 1)).map vi) (((List.range (wd.length + 1)).map fun k => (sg.map fun c => if wd.length < 2 then [wd.take k ++ [c] ++ wd.drop k] else []).flatten).map wv) (F2.ce fe) ⟨by decide, rfl, by decide, by decide⟩
      (PE.tcall he ok W2'.B W2'.nrange rfl rfl (by decide) rfl do_range1 (PA.cons (PE.bin (PE.len_s he ok W2'.B W2'.nlen (by omega) rfl (PE.name ok rfl rfl) rfl) PE.cint ob_add) PA.nil rfl) rfl)
      (fun h v hv => it_range hA.h hv (small0 (n := wd.length + 1) (by simp) (by omega)) (rsize0 (n := wd.length + 1) (by simp))) (flat_vis _) (fun _ => [("word", vs (S wd)), ("signs", vr a)]) (fun h₁ _ => gf_same (gfWS rfl rfl rfl rfl) h₁) (free_of ["signs", "word"] (by decide) ?_) rfl rfl rfl
      (by simp [rgi]) (flat_wvs _) ?_ ?_).weaken (fun _ _ x => by rw [← wv_flatten] at x; exact vlp_vl x)) ?_
  · intro y hy
    simp only [List.mem_cons, List.not_mem_nil, or_false] at hy
    rcases hy with rfl | rfl
    · exact ⟨ne_local kcs (by decide), _, rfl⟩
    · exact ⟨ne_local kcw (by decide), _, rfl⟩
  · rw [← wv_flatten]
    refine zline ?_
    have := into_len (wd := wd) hl hw
    unfold mvInto at this
    simp only [wv, List.length_map]
    exact Nat.le_trans this (by decide)
  · intro base' cenv i R out kb hce hkn hR hout
    obtain ⟨hi, rfl⟩ := rgi01_get hR
    have okc := hce.toEnvOk
    have eo : out = wv ((sg.map fun c => if wd.length < 2 then [wd.take i ++ [c] ++ wd.drop i] else []).flatten) := by
      rw [List.getElem?_map, List.getElem?_map, List.getElem?_range hi] at hout
      simpa using hout.symm
    subst eo
    refine ⟨true, fun _ _ => rfl, fun _ => ?_, fun h => nomatch h⟩
    rw [wv_flatten]
    refine Cl2.signs hA hce (VP.up _ _ _ _ kb hS2) rfl _ (by simp) fun base3 q c out2 kb3 hc hout2 => ?_
    have Wd := W2'.mono (kb.tr kb3)
    rw [List.getElem?_map, List.getElem?_map, hc] at hout2
    have e2 : out2 = wv (if wd.length < 2 then [wd.take i ++ [c] ++ wd.drop i] else []) := by simpa using hout2.symm
    subst e2
    refine ⟨decide (wd.length < 2), PT.congr (PT.cmp (PE.lens okc Wd.B Wd.nlen (by omega) (hkn.g rfl) (PE.name okc rfl rfl) rfl) PE.cint oc_lt rfl) ?_, fun hd => ?_, fun hd => ?_⟩
    · rw [Bool.eq_iff_iff, decide_eq_true_iff, decide_eq_true_iff]; omega
    · rw [if_pos (of_decide_eq_true hd)]
      exact ⟨_, rfl, PE.adds (by simp; omega) (PE.adds (by simp; omega) (PE.upto (by omega) (PE.name okc rfl rfl) (PE.name okc rfl rfl) (by intro _ _; rfl)) (PE.name okc rfl rfl)) (PE.off (k := i) (by omega) (PE.name okc rfl rfl) (PE.name okc rfl rfl) (by intro _ _; rfl))⟩
    · rw [if_neg (of_decide_eq_false hd)]; rfl
  intro h3 t3 k3 F3
  have l1 : (mvOut wd).length ≤ 2 := by simp [mvOut]; omega
  have l2 : (mvOver wd sg).length ≤ 100 := by
    unfold mvOver
    simp only [List.length_flatten, List.map_map]
    exact Nat.le_trans (over_len hl hw) (by decide)
  have l3 : (mvInto wd sg).length ≤ 100 := Nat.le_trans (into_len hl hw) (by decide)
  refine ex_ret (base := base) fe (hb.tr F3.keep) F3 (PE.bin ((PE.bin (PE.name ok rfl rfl) (PE.name ok rfl rfl) (ob_addl (zline (by simp [wv]; omega)))).weaken fun _ _ => vlp_vl) (PE.name ok rfl rfl) (ob_addl (zline (by simp [wv]; omega)))) fun v h4 t4 k4 p => F3.ret k4 ?_
  rw [← wv_app, ← wv_app] at p
  exact p
where
  over_len {wd sg : List Nat} (hl : sg.length = 3) (hw : wd.length ≤ 2) {g : Nat → Nat → List Nat} : ((List.range wd.length).map (List.length ∘ fun k => sg.map fun c => g k c)).sum ≤ 6 := by
    rcases wd with _ | ⟨x, _ | ⟨y, _ | ⟨z, r⟩⟩⟩
    · simp
    · simp [List.range_succ, hl]
    · simp [List.range_succ, hl]
    · simp at hw
  into_len {wd sg : List Nat} (hl : sg.length = 3) (hw : wd.length ≤ 2) : (mvInto wd sg).length ≤ 9 := by
    obtain ⟨x, y, z, rfl⟩ : ∃ x y z, sg = [x, y, z] := by
      rcases sg with _ | ⟨x, _ | ⟨y, _ | ⟨z, _ | ⟨u, r⟩⟩⟩⟩ <;> simp at hl
      exact ⟨x, y, z, rfl⟩
    unfold mvInto
    rcases wd with _ | ⟨x, _ | ⟨y, _ | ⟨z, r⟩⟩⟩
    · simp [List.range_succ]
    · simp [List.range_succ]
    · simp [List.range_succ]
    · simp at hw

theorem c_moves (W : W2 mg mb base) (hA : OkA A 988) {f : Addr} (hf : FnAt mg base "_law_moves" (fargs 8) (fbody 8) (fscope 8) f) {wd sg : List Nat} (hl : sg.length = 3) (hw : wd.length ≤ 2) :
    Does prog w base A (.ref f) [vs (S wd), vl (sv sg)] (vlp base (wv (moves wd sg))) := by
  refine does_def ["word", "signs"] W.B hf (hA.room (by decide)) ?_ rfl (by decide) (by decide) (by
    intro P hP; simp at hP; rcases hP with rfl | rfl
    · exact (flat_vs _).sq
    · exact sq_vl fun P hP => (sv_flat _ P hP).sq) ?_
  · intro pm code doc us h
    rcases us with _ | ⟨x, _ | ⟨y, _ | ⟨z, us⟩⟩⟩ <;> simp at h
    rfl
  intro s₀ s env E he fe hb0 F
  exact moves_body W (hA.deeper env) he fe hl hw hb0 F
end
end Mine
namespace Mine
open PySem PyProof.Rows PySem.Calls

def kvT (x y : Nat) : List (List Nat × VP) := [([x], vs (S [y])), ([y], vs (S [x]))]
theorem kvT_lookup (x y c : Nat) : (kvT x y).lookup [c] = (turn1 x y c).map fun d => vs (S [d]) := by
  unfold kvT turn1
  rw [List.lookup_cons]
  by_cases h : c = x
  · subst h; simp
  · have h1 : ([c] == [x]) = false := by simpa using h
    rw [h1, if_neg h, List.lookup_cons]
    by_cases h' : c = y
    · subst h'; simp
    · have h2 : ([c] == [y]) = false := by simpa using h'
      rw [h2, if_neg h']; rfl
theorem kvT_flat (x y : Nat) : ∀ p ∈ kvT x y, Flat p.2 := by
  intro p hp
  simp only [kvT, List.mem_cons, List.not_mem_nil, or_false] at hp
  rcases hp with rfl | rfl <;> exact flat_vs _
theorem turnAt_len {α : Type} [DecidableEq α] (x y : α) (w : List α) (k : Nat) : (turnAt x y w k).length ≤ 1 := by
  unfold turnAt
  split
  · split <;> simp
  · simp
theorem flatten_len1 {β : Type} : ∀ (l : List (List β)), (∀ a ∈ l, a.length ≤ 1) → l.flatten.length ≤ l.length
  | [], _ => by simp
  | a :: l, h => by
    have h1 := h a List.mem_cons_self
    have h2 := flatten_len1 l fun b hb => h b (List.mem_cons_of_mem _ hb)
    rw [List.flatten_cons, List.length_append, List.length_cons]; omega

section
variable {prog : Program} {w : World} {base : Heap} {A : Around} {mg mb : Str → Option Value} {E : Value → Shared → Prop} {s₀ s : Shared} {env : Env} {G : List (Str × VP)}

theorem turned_body (W : W2 mg mb base) (hA : OkA A 989) (he : env.scope = fscope 9) (fe : FEnv env) {wd : List Nat} {x y z : Nat} (hxy : x ≠ y) (hw : wd.length ≤ 2) (hb : Kp base s₀.heap)
    (F : Fs s₀ env [("word", vs (S wd)), ("signs", vl (sv [x, y, z]))] s) :
    wpAny (model prog w) A (execs (fbody 9) env) (Ret s₀ (vlp base (wv (turned wd x y)))) E s := by
  have ok := fe.toEnvOk
  have W1 := W.mono (hb.tr F.keep)
  refine ex_assignV (base := s.heap) (P := vdn prog w s.heap (kvT x y)) fe Kp.rf F (kdl he (.inr rfl)) rfl
    (PE.dict2 (a1 := [x]) (a2 := [y]) W1.B (PE.item_l (Ps := sv [x, y, z]) (PE.name ok rfl rfl) PE.cint (by decide) (by decide) rfl (by intro _ _; rfl)) (PE.item_l (R := vs (S [y])) (Ps := sv [x, y, z]) (PE.name ok rfl rfl) PE.cint (by decide) (by decide) rfl (by intro _ _; rfl)) (flat_vs _)
      (PE.item_l (Ps := sv [x, y, z]) (PE.name ok rfl rfl) PE.cint (by decide) (by decide) rfl (by intro _ _; rfl)) (PE.item_l (R := vs (S [x])) (Ps := sv [x, y, z]) (PE.name ok rfl rfl) PE.cint (by decide) (by decide) rfl (by intro _ _; rfl)) (flat_vs _) (by simpa using hxy)) ?_
  rintro v h1 h2 t2 k1 ⟨d, rfl, hdn, hD⟩ kf F2
  have hdf : d ∉ fa env := fun q => by obtain ⟨o, e, _⟩ := F.fa_some d q; rw [hdn] at e; cases e
  have hD2 : DV prog w h2 d (kvT x y) := hD.kx (kvT_flat x y) kf.kx hdf
  have F3 := F2.sl (G' := [("word", vs (S wd)), ("sizes", vr d)]) ⟨rfl, rfl, trivial⟩
  have W2' := W.mono (hb.tr F3.keep)
  refine ex_ret (base := h2) fe Kp.rf F3 ((PC.comp1 ((rgi 0 1 wd.length).map vi) (((List.range wd.length).map (turnAt x y wd)).map wv) (F3.ce fe) ⟨by decide, rfl, by decide, by decide⟩
      (PE.tcall he ok W2'.B W2'.nrange rfl rfl (by decide) rfl do_range1 (PA.cons (PE.len_s he ok W2'.B W2'.nlen (by omega) rfl (PE.name ok rfl rfl) rfl) PA.nil rfl) rfl)
      (fun h v hv => it_range hA.h hv (small01 (by omega)) (rsize01 _)) (flat_vis _) (fun _ => [("word", vs (S wd)), ("sizes", vr d)]) (fun h₁ _ => gf_same ?_ h₁) (free_of ["sizes", "word"] (by decide) ?_) (.inl rfl)
      (by simp [rgi]) (flat_wvs _) ?_ ?_).pe (sq_vlp (sq_wvs _))) ?_
  · intro p hp
    simp only [List.mem_cons, List.not_mem_nil, or_false] at hp
    rcases hp with rfl | rfl
    · exact ⟨flat_vs _, rfl, rfl⟩
    · exact ⟨flat_vr _, rfl, rfl⟩
  · intro y hy
    simp only [List.mem_cons, List.not_mem_nil, or_false] at hy
    rcases hy with rfl | rfl
    · exact ⟨ne_local (kd he rfl : env.kindOf _ = some .cell) (by decide), _, rfl⟩
    · exact ⟨ne_local (kd he rfl : env.kindOf _ = some .cell) (by decide), _, rfl⟩
  · rw [← wv_flatten]
    refine zline ?_
    simp only [wv, List.length_map]
    refine Nat.le_trans (flatten_len1 _ ?_) (by simp; omega)
    intro a ha
    obtain ⟨k, _, rfl⟩ := List.mem_map.mp ha
    exact turnAt_len x y wd k
  · intro b1 cenv b2 i R out kb1 hce hkn kb2 hR hout
    obtain ⟨hi, rfl⟩ := rgi01_get hR
    have okc := hce.toEnvOk
    have kb := kb1.tr kb2
    obtain ⟨c, hc⟩ : ∃ c, wd[i]? = some c := ⟨_, List.getElem?_eq_getElem hi⟩
    have eo : out = wv (turnAt x y wd i) := by
      rw [List.getElem?_map, List.getElem?_map, List.getElem?_range hi] at hout
      simpa using hout.symm
    subst eo
    have hSz : ∀ p (G : List (Str × VP)), G.lookup ("sizes" : Str) = some (vr d) → PE prog w b2 A cenv G (.Name "sizes" p) (vdv prog w (kvT x y)) := fun p G hg => PE.known (PE.name okc hg rfl) ⟨d, rfl, hD2.up kb⟩
    refine ⟨((kvT x y).lookup [c]).isSome, PT.cmp (PE.sgn (PE.name okc rfl rfl) (PE.name okc rfl rfl) hc (by omega) (by intro _ _; rfl)) (hSz _ _ rfl) oc_in rfl, fun hs => ?_, fun hs => ?_⟩
    · rw [kvT_lookup] at hs
      obtain ⟨e, he'⟩ : ∃ e, turn1 x y c = some e := by
        cases h : turn1 x y c with
        | none => rw [h] at hs; cases hs
        | some e => exact ⟨e, rfl⟩
      have et : turnAt x y wd i = [wd.take i ++ [e] ++ wd.drop (i + 1)] := by unfold turnAt; rw [hc]; simp [he']
      rw [et]
      refine ⟨_, rfl, PE.adds (by simp; omega) (PE.adds (by simp; omega) (PE.upto (by omega) (PE.name okc rfl rfl) (PE.name okc rfl rfl) (by intro _ _; rfl))
        (PE.getd (hSz _ _ rfl) (PE.sgn (PE.name okc rfl rfl) (PE.name okc rfl rfl) hc (by omega) (by intro _ _; rfl)) ?_ (by intro _ _; rfl))) (PE.off (k := i + 1) (by omega) (PE.name okc rfl rfl) (PE.bin (PE.name okc rfl rfl) PE.cint ob_add) (by intro _ _; rfl))⟩
      rw [kvT_lookup, he']; rfl
    · rw [kvT_lookup] at hs
      have he' : turn1 x y c = none := by
        cases h : turn1 x y c with
        | none => rfl
        | some e => rw [h] at hs; cases hs
      have et : turnAt x y wd i = [] := by unfold turnAt; rw [hc]; simp [he']
      rw [et]; rfl
  · intro v h4 t4 k4 p
    refine F3.ret k4 ?_
    rw [← wv_flatten] at p
    obtain ⟨a, us, e, hn, hp, hx⟩ := p
    exact ⟨a, us, e, (hb.tr F3.keep).none hn, hp, hx⟩

theorem c_turned (W : W2 mg mb base) (hA : OkA A 988) {f : Addr} (hf : FnAt mg base "_law_turned" (fargs 9) (fbody 9) (fscope 9) f) {wd : List Nat} {x y z : Nat} (hxy : x ≠ y) (hw : wd.length ≤ 2) :
    Does prog w base A (.ref f) [vs (S wd), vl (sv [x, y, z])] (vlp base (wv (turned wd x y))) := by
  refine does_def ["word", "signs"] W.B hf (hA.room (by decide)) ?_ rfl (by decide) (by decide) (by
    intro P hP; simp at hP; rcases hP with rfl | rfl
    · exact (flat_vs _).sq
    · exact sq_vl fun P hP => (sv_flat _ P hP).sq) ?_
  · intro pm code doc us h
    rcases us with _ | ⟨x, _ | ⟨y, _ | ⟨z, us⟩⟩⟩ <;> simp at h
    rfl
  intro s₀ s env E he fe hb0 F
  exact turned_body W (hA.deeper env) he fe hxy hw hb0 F
end
end Mine
namespace Mine
open PySem PyProof.Rows PySem.Calls

def kvc (kc : List (List Nat × Int)) : List (List Nat × VP) := kc.map fun p => (p.1, vi p.2)
theorem kvc_lookup (k : List Nat) : ∀ kc : List (List Nat × Int), (kvc kc).lookup k = (kc.lookup k).map vi
  | [] => rfl
  | (a, c) :: kc => by
    show List.lookup k ((a, vi c) :: kvc kc) = _
    rw [List.lookup_cons, List.lookup_cons, kvc_lookup k kc]
    split <;> rfl
theorem kvc_flat (kc : List (List Nat × Int)) : ∀ p ∈ kvc kc, Flat p.2 := by
  intro p hp
  obtain ⟨q, _, rfl⟩ := List.mem_map.mp hp
  exact flat_vi _
theorem DV.kn {prog : Program} {w : World} {h h' : Heap} {d : Addr} {kvs : List (List Nat × VP)} (x : DV prog w h d kvs) (hf : ∀ p ∈ kvs, Flat p.2) (k : KN h h') : DV prog w h' d kvs := by
  obtain ⟨a, us, ⟨o, es, ep, ho, he, hd, r⟩, c⟩ := x
  exact ⟨a, us, ⟨o, es, ep, k d o ho (fun vs e => by rw [hd] at e; cases e), he, hd, r⟩, all2_flat (by intro P hP; obtain ⟨p, hp, rfl⟩ := List.mem_map.mp hP; exact hf p hp) c⟩
theorem vl_kx {h h' : Heap} {a : Addr} {Ps : List VP} {mu : List Addr} (x : (vl Ps).p h (.ref a)) (hf : ∀ P ∈ Ps, Flat P) (k : KX mu h h') (ha : a ∉ mu) : (vl Ps).p h' (.ref a) := by
  obtain ⟨a', us, e, hl, hx⟩ := x
  cases e
  exact ⟨a, us, rfl, isList_kx k ha hl, all2_flat hf hx⟩
theorem vl_has {h : Heap} {a : Addr} {Ps : List VP} (x : (vl Ps).p h (.ref a)) : ∃ o, h.get? a = some o ∧ isSeq o = true := by
  obtain ⟨a', us, e, ⟨o, ho, _, n, hd⟩, _⟩ := x
  cases e
  exact ⟨o, ho, by simp [isSeq, hd]⟩

abbrev wvTurn : List Stmt := forBody (fbody 10)[1]?
abbrev wvIn : List Stmt := forBody wvTurn[3]?

/-- the state of _law_waves; hE is the heap at its start -/
structure WS (prog : Program) (w : World) (hE : Heap) (sg : List Nat) (a R d : Addr) (rs : List Addr) (costs : List (List Nat × Int)) (waves : List (List (List Nat))) (h : Heap) : Prop where
  r : LL PlainL hE h R rs (waves.map wv)
  dv : DV prog w h d (kvc costs)
  sg : (vl (sv sg)).p h (.ref a)
theorem WS.kf {prog : Program} {w : World} {hE : Heap} {sg : List Nat} {a R d : Addr} {rs : List Addr} {costs : List (List Nat × Int)} {waves : List (List (List Nat))} {h h' : Heap} {env : Env} (X : WS prog w hE sg a R d rs costs waves h) (k : Kf env h h') (hd : d ∉ fa env) : WS prog w hE sg a R d rs costs waves h' :=
  ⟨X.r.ks zok_plainL k.ks, X.dv.kx (kvc_flat _) k.kx hd, (sq_vl fun P hP => (sv_flat _ P hP).sq) _ _ _ k.ks X.sg⟩
theorem WS.kp {prog : Program} {w : World} {hE : Heap} {sg : List Nat} {a R d : Addr} {rs : List Addr} {costs : List (List Nat × Int)} {waves : List (List (List Nat))} {h h' : Heap} (X : WS prog w hE sg a R d rs costs waves h) (k : Kp h h') : WS prog w hE sg a R d rs costs waves h' :=
  ⟨X.r.ks zok_plainL k.ks, X.dv.up k, VP.up _ _ _ _ k X.sg⟩
theorem WS.kn {prog : Program} {w : World} {hE : Heap} {sg : List Nat} {a R d : Addr} {rs : List Addr} {costs : List (List Nat × Int)} {waves : List (List (List Nat))} {h h' : Heap} (X : WS prog w hE sg a R d rs costs waves h) (k : KN h h') : WS prog w hE sg a R d rs costs waves h' :=
  ⟨X.r.ks zok_plainL k.ks, X.dv.kn (kvc_flat _) k, (sq_vl fun P hP => (sv_flat _ P hP).sq) _ _ _ k.ks X.sg⟩

section
variable {prog : Program} {w : World} {base hE : Heap} {A : Around} {mg mb : Str → Option Value} {E : Value → Shared → Prop} {s₀ s : Shared} {env : Env} {G : List (Str × VP)}

/-- for one in come -/
theorem waves_in (hA : OkA A 988) (he : env.scope = fscope 10) (fe : FEnv env) {sg : List Nat} {a R d c rN : Addr} {rs : List Addr} {costs : List (List Nat × Int)} {waves : List (List (List Nat))} {cm : List (List Nat)} {cost : Nat} {Q : Flow → Shared → Prop}
    (hb : Kp base s₀.heap) (h0E : Kp s₀.heap hE) (hbd : (costs.length + cm.length : Nat) ≤ 900) (hcost : waves.length = cost) (hcs : cost < 1000)
    (haE : ∃ o, hE.get? a = some o) (hdE : hE.get? d = none) (hdf : d ∉ fa env)
    (F : Fs s₀ env [("come", vr c), ("cost", vi (cost : Int)), ("costs", vr d), ("waves", vr R), ("signs", vr a)] s) (X : WS prog w hE sg a R d (rs ++ [rN]) costs (waves ++ [[]]) s.heap) (hrs : rs.length = cost)
    (hC : (vl (wv cm)).p s.heap (.ref c)) (hcr : c ≠ rN)
    (k : ∀ s', Fs s₀ env [("costs", vr d), ("waves", vr R), ("signs", vr a)] s' → WS prog w hE sg a R d (rs ++ [rN]) (cm.foldl (addOne cost) (costs, [])).1 (waves ++ [(cm.foldl (addOne cost) (costs, [])).2]) s'.heap → KX (rN :: d :: fa env) s.heap s'.heap → Q .next s') :
    wpAny (model prog w) A (execs (wvTurn.drop 3) env) Q E s := by
  have ok := fe.toEnvOk
  have hrNmem : rN ∈ rs ++ [rN] := List.mem_append.mpr (.inr List.mem_cons_self)
  have hrN : (rs ++ [rN])[cost]? = some rN := by rw [← hrs]; simp
  have hNE := X.r.new rN (List.mem_cons_of_mem _ hrNmem)
  obtain ⟨oc, hoc, hocq⟩ := vl_has hC
  have hcd : c ≠ d := by
    rintro rfl
    obtain ⟨o, ho, hq⟩ := X.dv.has
    rw [hoc] at ho; cases ho; rw [hocq] at hq; cases hq
  have hcf : c ∉ fa env := fun q => by
    obtain ⟨o, ho, hq⟩ := F.fa_some c q
    rw [hoc] at ho; cases ho; rw [hocq] at hq; cases hq
  have hCmu : c ∉ rN :: d :: fa env := by
    intro q
    rcases List.mem_cons.mp q with q | q
    · exact hcr q
    · rcases List.mem_cons.mp q with q | q
      · exact hcd q
      · exact hcf q
  have hane : ∀ q, hE.get? q = none → a ≠ q := fun q hq e => by obtain ⟨o, ho⟩ := haE; rw [e, hq] at ho; cases ho
  refine ex_for (base := s.heap) fe Kp.rf F (rN :: d :: fa env) (wv cm) (P := vla c (wv cm)) (PE.knownA (PE.name ok rfl rfl) hC)
    (fun h' v kp hv => by
      obtain ⟨rfl, a', us, e, hl, hx⟩ := hv
      cases e
      exact it_list hA.h hl hx hCmu) (wv_flat _)
    (fun b hbm => by
      rcases List.mem_cons.mp hbm with rfl | hbm
      · obtain ⟨o, ho, _⟩ := X.r.has zok_plainL b (List.mem_cons_of_mem _ hrNmem); exact ⟨o, ho⟩
      · rcases List.mem_cons.mp hbm with rfl | hbm
        · obtain ⟨o, ho, _⟩ := X.dv.has; exact ⟨o, ho⟩
        · obtain ⟨o, ho, _⟩ := F.fa_some b hbm; exact ⟨o, ho⟩)
    (fun b hbm => by
      rcases List.mem_cons.mp hbm with rfl | hbm
      · exact h0E.none hNE
      · rcases List.mem_cons.mp hbm with rfl | hbm
        · exact h0E.none hdE
        · exact F.fa_fresh b hbm)
    (fun i s' => i ≤ cm.length ∧ WS prog w hE sg a R d (rs ++ [rN]) ((cm.take i).foldl (addOne cost) (costs, [])).1 (waves ++ [((cm.take i).foldl (addOne cost) (costs, [])).2]) s'.heap ∧ Fs s₀ env [("cost", vi (cost : Int)), ("costs", vr d), ("waves", vr R), ("signs", vr a)] s')
    ?_ ?_ ?_ ?_ (by intro x; rfl)
  · intro h' tk kp F'
    exact ⟨Nat.zero_le _, by simpa using X.kp kp, F'.sl ⟨rfl, rfl, rfl, rfl, trivial⟩⟩
  · rintro i s' h' tk ⟨hi, X', F'⟩ kn k0
    exact ⟨hi, X'.kn kn, F'.kn kn k0⟩
  · rintro i Rv s' v E' hR hRv ⟨hi, X', F'⟩ kx hsame
    obtain ⟨one, hone, rfl⟩ := wv_get hR
    have hlt := (List.getElem?_eq_some_iff.mp hone).1
    have htk : cm.take (i + 1) = cm.take i ++ [one] := by rw [List.take_add_one, hone]; rfl
    obtain ⟨fl1, fl2, _⟩ := fold_add (cost : Int) (cm.take i) costs []
    generalize hst : (cm.take i).foldl (addOne cost) (costs, []) = st at X' fl1 fl2
    obtain ⟨kc, ws⟩ := st
    simp only at X' fl1 fl2
    have hnext : (cm.take (i + 1)).foldl (addOne cost) (costs, []) = addOne cost (kc, ws) one := by rw [htk, List.foldl_append, hst]; rfl
    refine store_ fe F' (kdl he (.inl rfl)) hRv (flat_vs _).sq fun h1 t1 k1 F1 => ?_
    have X1 := X'.kf k1 hdf
    refine ex_if1 (base := h1) fe Kp.rf F1 (PT.cmp (PE.name ok rfl rfl) (PE.known (R := vdv prog w (kvc kc)) (PE.name ok rfl rfl) ⟨d, rfl, X1.dv⟩) oc_notin rfl) ?_ ?_
    · intro hc h2 t2 k2 F2
      rw [kvc_lookup] at hc
      have hnone : kc.lookup one = none := by
        cases h : kc.lookup one with
        | none => rfl
        | some z => rw [h] at hc; cases hc
      have X2 := X1.kp k2
      refine ex_setd (base := h2) (k := one) (P := vi (cost : Int)) fe Kp.rf F2 rfl (flat_vi _) (PE.name ok rfl rfl) (PE.name ok rfl rfl) (PE.name ok rfl rfl) X2.dv (kvc_flat _) (by rw [kvc_lookup, hnone]; rfl) (zline (by simp [kvc] at *; omega)) (h0E.none hdE) hdf ?_
      intro h3 t3 k3 ks3 D3 F3
      have r3 := X2.r.ks zok_plainL ks3
      obtain ⟨Ps, us, hPs, hus, hxs⟩ := r3.rowAt hrN
      have hPs' : Ps = wv ws := by
        rw [List.getElem?_map, List.getElem?_append_right (by omega), hcost] at hPs
        simpa using hPs.symm
      subst hPs'
      have hul : us.length = ws.length := by simpa [wv] using hxs.length
      refine ex_append (base := h3) (r := rN) (us := us) fe Kp.rf F3 (flatG ?_) (PE.item_l (R := vr rN) (Ps := (rs ++ [rN]).map vr) (PE.known (PE.name ok rfl rfl) (r3.vr zok_plainL)) (PE.name ok rfl rfl) (by omega) (by omega) (by rw [Int.toNat_natCast, List.getElem?_map, hrN]; rfl) (by intro _ _; rfl)) (PE.name ok rfl rfl)
        hus (h0E.none hNE) (zline (by simp at fl2; omega)) rfl rfl rfl rfl ?_
      · intro p hp
        simp only [List.mem_cons, List.not_mem_nil, or_false] at hp
        rcases hp with rfl | rfl | rfl | rfl | rfl <;> first | exact flat_vi _ | exact flat_vs _ | exact flat_vr _
      intro v4 h4 h5 tk5 k4 p4 kx5 hpl5 F5
      have r4 := r3.ks zok_plainL k4.ks
      have L5 := r4.upd zok_plainL hrN kx5 hpl5 (Ps := wv ws ++ [vs (S one)]) ((all2_flat (wv_flat _) hxs).append ⟨p4, trivial⟩) (by
        intro P hP
        rcases List.mem_append.mp hP with hP | hP
        · exact wv_flat _ P hP
        · simp at hP; subst hP; exact flat_vs _)
      have hrows : ((waves ++ [ws]).map wv).set cost (wv ws ++ [vs (S one)]) = (waves ++ [ws ++ [one]]).map wv := by
        rw [List.map_append, List.map_append, ← hcost]
        simp [wv]
      rw [hrows] at L5
      have hadd : addOne cost (kc, ws) one = (kc ++ [(one, (cost : Int))], ws ++ [one]) := by unfold addOne; simp [hnone]
      have kx15 : KX (rN :: d :: fa env) s'.heap h5 := by
        refine (k1.kx.mono fun p hp => List.mem_cons_of_mem _ (List.mem_cons_of_mem _ hp)).tr (k2.kx.tr ((k3.mono fun p hp => ?_).tr (k4.kx.tr (kx5.mono fun p hp => ?_))))
        · have : p = d := by simpa using hp
          subst this; exact List.mem_cons_of_mem _ List.mem_cons_self
        · have : p = rN := by simpa using hp
          subst this; exact List.mem_cons_self
      have hdN : d ∉ [rN] := fun q => by
        have e : d = rN := by simpa using q
        obtain ⟨o, ho, hq⟩ := D3.has
        obtain ⟨o', ho', hq'⟩ := r3.has zok_plainL rN (List.mem_cons_of_mem _ hrNmem)
        rw [← e, ho] at ho'; cases ho'; rw [hq] at hq'; cases hq'
      have D5 : DV prog w h5 d (kvc (kc ++ [(one, (cost : Int))])) := by
        have := (D3.up k4).kx (by
          intro p hp
          rcases List.mem_append.mp hp with hp | hp
          · exact kvc_flat _ p hp
          · simp at hp; subst hp; exact flat_vi _) kx5 hdN
        simpa [kvc] using this
      have S5 : (vl (sv sg)).p h5 (.ref a) := vl_kx (VP.up _ _ _ _ k4 ((sq_vl fun P hP => (sv_flat _ P hP).sq) _ _ _ ks3 X2.sg)) (sv_flat _) kx5 (fun q => hane rN hNE (by simpa using q))
      refine ex_nil (ex_nil ⟨⟨hlt, ?_, F5.sl ⟨rfl, rfl, rfl, rfl, trivial⟩⟩, kx15, F5.same⟩)
      rw [hnext, hadd]
      exact ⟨L5, D5, S5⟩
    · intro hc h2 t2 k2 F2
      rw [kvc_lookup] at hc
      have hsome : (kc.lookup one).isSome = true := by
        cases h : kc.lookup one with
        | none => rw [h] at hc; cases hc
        | some z => rfl
      have hadd : addOne cost (kc, ws) one = (kc, ws) := by unfold addOne; simp [hsome]
      refine ex_nil ⟨⟨hlt, ?_, F2.sl ⟨rfl, rfl, rfl, rfl, trivial⟩⟩, (k1.kx.mono fun p hp => List.mem_cons_of_mem _ (List.mem_cons_of_mem _ hp)).tr k2.kx, F2.same⟩
      rw [hnext, hadd]
      exact X1.kp k2
  · rintro s' ⟨hi, X', F'⟩ kx hsame
    have e : (wv cm).length = cm.length := by simp [wv]
    rw [e, List.take_length] at X'
    exact ex_nil (k s' (F'.sl ⟨rfl, rfl, rfl, trivial⟩) X' kx)
end
end Mine
namespace Mine
open PySem PyProof.Rows PySem.Calls

section
variable {prog : Program} {w : World} {base hE : Heap} {A : Around} {mg mb : Str → Option Value} {E : Value → Shared → Prop} {s₀ s : Shared} {env : Env} {G : List (Str × VP)}

/-- the second clause goes through what a def gives back -/
theorem Cl2.call {cenv : Env} {base' : Heap} {a f : Addr} {sg v : List Nat} {us : List (List Nat)} {p1 p2 p3 p4 p5 : Pos} {name : Str} {params : Arguments} {body : List Stmt} {sc' : Scope} (hA : OkA A 988) (hce : CE cenv) (B : Base mg mb base') (hS : (vl (sv sg)).p base' (.ref a))
    (hg : G.lookup ("signs" : Str) = some (vr a)) (ho : G.lookup ("old" : Str) = some (vs (S v))) (hf : FnAt mg base' name params body sc' f) (hk : cenv.kindOf name = some .globalImplicit) (hd : (name == ("__debug__" : Str)) = false)
    (hdo : ∀ base'', Kp base' base'' → Does prog w base'' A (.ref f) [vs (S v), vl (sv sg)] (vlp base'' (wv us))) :
    Cl2 prog w A cenv base' G "one" (.Call (.Name name p1) [.Name "old" p2, .Name "signs" p3] [] p4) [] (.Name "one" p5) (wv us) := by
  intro base'' kb
  have ok := hce.toEnvOk
  refine ⟨vlp base'' (wv us), wv us, (us.map fun u => [vs (S u)]), PE.dc ok (B.mono kb) (hf.mono kb) hk hd (PA.cons (PE.name ok ho rfl) (PA.cons (PE.known (PE.name ok hg rfl) (VP.up _ _ _ _ kb hS)) PA.nil rfl) rfl) rfl (hdo base'' kb), ?_, wv_flat _, ?_, by simp [wv], ?_⟩
  · rintro h v mu ⟨a', us', rfl, hn, hp, hx⟩ hmu
    refine it_list hA.h hp.isList hx fun hm => ?_
    obtain ⟨_, o, ho⟩ := hmu _ hm
    rw [hn] at ho; cases ho
  · have e := wv_single id us; simpa using e
  · intro base3 j R2 out2 kb3 hR2 hout2
    obtain ⟨u, hu, rfl⟩ := wv_get hR2
    rw [List.getElem?_map, hu] at hout2
    have e2 : out2 = [vs (S u)] := by simpa using hout2.symm
    subst e2
    exact ⟨true, rfl, fun _ => ⟨_, rfl, PE.name ok rfl rfl⟩, fun h => nomatch h⟩

/-- waves.append([]), then the inner loop -/
theorem waves_tail (hA : OkA A 988) (he : env.scope = fscope 10) (fe : FEnv env) {sg : List Nat} {a R d c : Addr} {rs : List Addr} {costs : List (List Nat × Int)} {waves : List (List (List Nat))} {cm : List (List Nat)} {cost : Nat} {Q : Flow → Shared → Prop}
    (hb : Kp base s₀.heap) (h0E : Kp s₀.heap hE) (hbd : (costs.length + cm.length : Nat) ≤ 900) (hcost : waves.length = cost) (hcs : cost < 900)
    (haE : ∃ o, hE.get? a = some o) (hdE : hE.get? d = none) (hdf : d ∉ fa env)
    (F : Fs s₀ env [("come", vr c), ("cost", vi (cost : Int)), ("costs", vr d), ("waves", vr R), ("signs", vr a)] s) (X : WS prog w hE sg a R d rs costs waves s.heap) (hrs : rs.length = cost) (hEs : ∀ r, s.heap.get? r = none → hE.get? r = none)
    (hC : (vl (wv cm)).p s.heap (.ref c)) (hcR : c ≠ R)
    (k : ∀ s' rs', rs'.length = cost + 1 → Fs s₀ env [("costs", vr d), ("waves", vr R), ("signs", vr a)] s' → WS prog w hE sg a R d rs' (cm.foldl (addOne cost) (costs, [])).1 (waves ++ [(cm.foldl (addOne cost) (costs, [])).2]) s'.heap → KX (R :: d :: fa env) s.heap s'.heap → Q .next s') :
    wpAny (model prog w) A (execs (wvTurn.drop 2) env) Q E s := by
  have ok := fe.toEnvOk
  have hRE := X.r.new R List.mem_cons_self
  have hrl := X.r.len
  refine ex_append (base := s.heap) (r := R) (us := rs.map Value.ref) fe Kp.rf F (flatG ?_) (PE.name ok rfl rfl) (PE.listP PA.nil (by show 0 ≤ _; decide)) X.r.top (h0E.none hRE) (zline (by simp; omega)) rfl rfl rfl rfl ?_
  · intro p hp
    simp only [List.mem_cons, List.not_mem_nil, or_false] at hp
    rcases hp with rfl | rfl | rfl | rfl | rfl <;> first | exact flat_vi _ | exact flat_vs _ | exact flat_vr _
  intro v h1 h2 tk k1 hv kx hpl F2
  obtain ⟨rN, us, rfl, hn, hp, hx⟩ := hv
  have r1 := X.r.ks zok_plainL k1.ks
  have ne : ∀ q o, s.heap.get? q = some o → q ≠ rN := fun q o e e' => by rw [e', hn] at e; cases e
  have L2 := r1.app zok_plainL (r := rN) (us := us) (Ps := []) (fun q hq => by obtain ⟨o, ho, _⟩ := X.r.has zok_plainL q hq; exact ne q o ho) (hEs _ hn) kx hp hx (by intro P hP; cases hP) hpl
  have hdR : d ∉ [R] := fun q => by
    have e : d = R := by simpa using q
    obtain ⟨o, ho, hq⟩ := X.dv.has
    obtain ⟨o', ho', hq'⟩ := X.r.has zok_plainL R List.mem_cons_self
    rw [e, ho'] at ho; cases ho; rw [hq] at hq'; cases hq'
  have haR : a ∉ [R] := fun q => by
    have e : a = R := by simpa using q
    obtain ⟨o, ho⟩ := haE
    rw [e, hRE] at ho; cases ho
  have X2 : WS prog w hE sg a R d (rs ++ [rN]) costs (waves ++ [[]]) h2 := ⟨by simpa [wv] using L2, (X.dv.up k1).kx (kvc_flat _) kx hdR, vl_kx (VP.up _ _ _ _ k1 X.sg) (sv_flat _) kx haR⟩
  obtain ⟨oc, hoc, _⟩ := vl_has hC
  refine waves_in (base := base) hA he fe hb h0E hbd hcost (by omega) haE hdE hdf F2 X2 hrs (vl_kx (VP.up _ _ _ _ k1 hC) (wv_flat _) kx (by simpa using hcR)) (ne c oc hoc) fun s' F' X' kx' => ?_
  refine k s' (rs ++ [rN]) (by simp [hrs]) F' X' fun b o hbm e => ?_
  refine kx' b o (fun q => ?_) (kx b o (fun q => hbm (by
    have : b = R := by simpa using q
    subst this; exact List.mem_cons_self)) (k1 b o e))
  rcases List.mem_cons.mp q with q | q
  · exact ne b o e q
  · exact hbm (List.mem_cons_of_mem _ q)

theorem waves_turn (W : W2 mg mb base) (hA : OkA A 988) (he : env.scope = fscope 10) (fe : FEnv env) {x y z : Nat} {a R d : Addr} {rs : List Addr} {wd : List Nat} {i : Nat} {Q : Flow → Shared → Prop}
    (hxy : x ≠ y) (hi : i < 4) (hwd : wd.length ≤ 2) (hb : Kp base s₀.heap) (h0E : Kp s₀.heap hE) (haE : ∃ o, hE.get? a = some o) (hdE : hE.get? d = none) (hdf : d ∉ fa env)
    (F : Fs s₀ env [("cost", vi ((i + 1 : Nat) : Int)), ("costs", vr d), ("waves", vr R), ("signs", vr a)] s) (X : WS prog w hE [x, y, z] a R d rs (wavesAt x y z wd i).1 (wavesAt x y z wd i).2 s.heap) (hrs : rs.length = i + 1) (hEs : ∀ r, s.heap.get? r = none → hE.get? r = none)
    (k : ∀ s' rs', rs'.length = i + 2 → Fs s₀ env [("costs", vr d), ("waves", vr R), ("signs", vr a)] s' → WS prog w hE [x, y, z] a R d rs' (wavesAt x y z wd (i + 1)).1 (wavesAt x y z wd (i + 1)).2 s'.heap → KX (R :: d :: fa env) s.heap s'.heap → Q .next s') :
    wpAny (model prog w) A (execs wvTurn env) Q E s := by
  have ok := fe.toEnvOk
  have hok := wavesAt_ok (x := x) (y := y) (z := z) hwd i (by omega)
  obtain ⟨cok1, cok2⟩ := comes_ok (x := x) (y := y) (z := z) hi hok
  have hcl := hok.cl
  have hcb : bC i + bW (i + 1) ≤ 609 := by
    have : i = 0 ∨ i = 1 ∨ i = 2 ∨ i = 3 := by omega
    rcases this with rfl | rfl | rfl | rfl <;> decide
  have hlen := hok.len
  have Ws := W.mono (hb.tr F.keep)
  obtain ⟨g0, gl0, gw0⟩ := hok.at (j := i) (Nat.le_refl _)
  have kcs : env.kindOf "signs" = some .cell := kd he rfl
  have hdRs : ∀ (h : Heap) (q : Addr), s.heap.get? q = none → h.get? R = h.get? R → q ≠ R := fun h q hq _ e => by
    obtain ⟨o, ho, _⟩ := X.r.has zok_plainL R List.mem_cons_self
    rw [e, ho] at hq; cases hq
  have fin : ∀ (cm : List (List Nat)) (s6 : Shared) (c : Addr), cm = comes x y z (i + 1) (wavesAt x y z wd i).2 → Kf env s.heap s6.heap → s.heap.get? c = none → (vl (wv cm)).p s6.heap (.ref c) →
      Fs s₀ env [("come", vr c), ("cost", vi ((i + 1 : Nat) : Int)), ("costs", vr d), ("waves", vr R), ("signs", vr a)] s6 → wpAny (model prog w) A (execs (wvTurn.drop 2) env) Q E s6 := by
    intro cm s6 c hcm kf hcn hC6 F6
    have hEs6 : ∀ r, s6.heap.get? r = none → hE.get? r = none := fun r hr => by
      refine hEs r ?_
      cases e : s.heap.get? r with
      | none => rfl
      | some o =>
        by_cases hm : r ∈ fa env
        · obtain ⟨o', ho', _⟩ := F6.fa_some r hm; rw [hr] at ho'; cases ho'
        · have := kf.kx r o hm e; rw [hr] at this; cases this
    subst hcm
    refine waves_tail (base := base) hA he fe hb h0E (by omega) hlen (by omega) haE hdE hdf F6 (X.kf kf hdf) hrs hEs6 hC6 (fun e => ?_) fun s' rs' hrs' F' X' kx' => ?_
    · obtain ⟨o, ho, _⟩ := X.r.has zok_plainL R List.mem_cons_self
      rw [← e, hcn] at ho; cases ho
    · exact k s' rs' hrs' F' X' ((kf.kx.mono fun p hp => List.mem_cons_of_mem _ (List.mem_cons_of_mem _ hp)).tr kx')
  obtain ⟨ft, hft⟩ := Ws.fturned
  refine ex_assignC (base := s.heap) fe Kp.rf F (kd he rfl) (swaps_yes fe (kd he rfl) rfl) (P := vlp s.heap (wv (come1 x y ((wavesAt x y z wd i).2.getD i [])))) (sq_vlp fun P hP => (wv_flat _ P hP).sq)
    ((PC.comp2 (wv ((wavesAt x y z wd i).2.getD i [])) ((((wavesAt x y z wd i).2.getD i []).map fun v => turned v x y).map wv) (F.ce fe) ⟨by decide, rfl, by decide, by decide⟩
      (PE.item_l (R := vl (wv ((wavesAt x y z wd i).2.getD i []))) (PE.known (PE.name ok rfl rfl) (X.r.vl zok_plainL)) (PE.bin (PE.name ok rfl rfl) PE.cint ob_sub) (by omega) (by omega) ?_ (by intro _ _; rfl))
      (fun h v hv => it_vl hA.h hv) (wv_flat _) (fun _ => [("signs", vr a)]) (fun h₁ _ => gf_same ?_ h₁) (free_of ["signs"] (by decide) ?_) rfl rfl rfl (by simp [wv]) (flat_wvs _) ?_ ?_).weaken (fun _ _ q => by rw [← wv_flatten] at q; exact q)) ?_
  · have e : (((i + 1 : Nat) : Int) - 1).toNat = i := by omega
    rw [e, List.getElem?_map, List.getElem?_map, g0]; rfl
  · intro p hp
    simp only [List.mem_cons, List.not_mem_nil, or_false] at hp
    subst hp; exact ⟨flat_vr _, rfl, rfl⟩
  · intro q hq
    simp only [List.mem_cons, List.not_mem_nil, or_false] at hq
    subst hq; exact ⟨ne_local kcs (by decide), _, rfl⟩
  · rw [← wv_flatten]
    refine zline ?_
    have := (come1_ok (x := x) (y := y) gw0).1
    unfold come1 at this
    simp only [wv, List.length_map]
    have hb2 : bW i ≤ 509 := by
      have : i = 0 ∨ i = 1 ∨ i = 2 ∨ i = 3 := by omega
      rcases this with rfl | rfl | rfl | rfl <;> decide
    have hb3 : 2 * bW i ≤ 1000 := by
      have : i = 0 ∨ i = 1 ∨ i = 2 ∨ i = 3 := by omega
      rcases this with rfl | rfl | rfl | rfl <;> decide
    omega
  · intro base' cenv j Rv out kb hce hkn hRv hout
    obtain ⟨v, hv, rfl⟩ := wv_get hRv
    have eo : out = wv (turned v x y) := by
      rw [List.getElem?_map, List.getElem?_map, hv] at hout
      simpa using hout.symm
    subst eo
    have Wb := Ws.mono kb
    exact ⟨true, fun _ _ => rfl, fun _ => Cl2.call hA hce Wb.B (VP.up _ _ _ _ kb X.sg) rfl rfl (hft.mono kb) (hkn.g rfl) rfl (fun base'' kb'' => c_turned (Wb.mono kb'') hA ((hft.mono kb).mono kb'') hxy (gw0 v (List.mem_of_getElem? hv))), fun h => nomatch h⟩
  intro h1 t1 k1 F1
  obtain ⟨vC, ⟨c, us, rfl, hcn, hcp, hcx⟩, hnC⟩ := F1.named (x := "come") rfl
  have F2 := (hnC (vr c) (flat_vr _).sq rfl).sl (G' := [("come", vr c), ("cost", vi ((i + 1 : Nat) : Int)), ("costs", vr d), ("waves", vr R), ("signs", vr a)]) ⟨rfl, rfl, rfl, rfl, rfl, trivial⟩
  have hC1 : (vl (wv (come1 x y ((wavesAt x y z wd i).2.getD i [])))).p h1 (.ref c) := ⟨c, us, rfl, hcp.isList, hcx⟩
  have X1 := X.kf k1 hdf
  have W1' := W.mono (hb.tr F2.keep)
  obtain ⟨fm, hfm⟩ := W1'.fmoves
  refine ex_if1 (base := h1) fe Kp.rf F2 (PT.cmp (PE.name ok rfl rfl) PE.cint oc_gt rfl) ?_ ?_
  · intro hc h2 t2 k2 F3
    have hi1 : 1 ≤ i := by have := of_decide_eq_true hc; omega
    have X2 := X1.kp k2
    have W2' := W1'.mono k2
    have hC2 := VP.up _ _ _ _ k2 hC1
    obtain ⟨g1, gl1, gw1⟩ := hok.at (j := i - 1) (by omega)
    have ecm : come1 x y ((wavesAt x y z wd i).2.getD i []) ++ come2 [x, y, z] ((wavesAt x y z wd i).2.getD (i - 1) []) = comes x y z (i + 1) (wavesAt x y z wd i).2 := by
      unfold comes
      rw [if_pos (by omega)]
      simp only [Nat.add_sub_cancel]
      have : i + 1 - 2 = i - 1 := by omega
      rw [this]
    have hl1 := congrArg List.length ecm
    rw [List.length_append] at hl1
    refine ex_assign (base := h2) (P := vlp h2 (wv (comes x y z (i + 1) (wavesAt x y z wd i).2))) fe Kp.rf F3 (kdl he (.inl rfl)) rfl (sq_vlp fun P hP => (wv_flat _ P hP).sq)
      ((PE.bin (PE.known (PE.name ok rfl rfl) hC2) (((PC.comp2 (wv ((wavesAt x y z wd i).2.getD (i - 1) [])) ((((wavesAt x y z wd i).2.getD (i - 1) []).map fun v => moves v [x, y, z]).map wv) (F3.ce fe) ⟨by decide, rfl, by decide, by decide⟩
        (PE.item_l (R := vl (wv ((wavesAt x y z wd i).2.getD (i - 1) []))) (PE.known (PE.name ok rfl rfl) (X2.r.vl zok_plainL)) (PE.bin (PE.name ok rfl rfl) PE.cint ob_sub) (by omega) (by omega) ?_ (by intro _ _; rfl))
        (fun h v hv => it_vl hA.h hv) (wv_flat _) (fun _ => [("signs", vr a)]) (fun h₁ _ => gf_same ?_ h₁) (free_of ["signs"] (by decide) ?_) rfl rfl rfl (by simp [wv]) (flat_wvs _) ?_ ?_).pe (sq_vlp (sq_wvs _))).weaken
          (R' := vl (wv (come2 [x, y, z] ((wavesAt x y z wd i).2.getD (i - 1) [])))) (fun _ _ q => by rw [← wv_flatten] at q; exact vlp_vl q)) (ob_addl (zline ?_))).weaken (fun _ _ q => by rw [← wv_app, ecm] at q; exact q)) ?_
    · have e : (((i + 1 : Nat) : Int) - 2).toNat = i - 1 := by omega
      rw [e, List.getElem?_map, List.getElem?_map, g1]; rfl
    · intro p hp
      simp only [List.mem_cons, List.not_mem_nil, or_false] at hp
      subst hp; exact ⟨flat_vr _, rfl, rfl⟩
    · intro q hq
      simp only [List.mem_cons, List.not_mem_nil, or_false] at hq
      subst hq; exact ⟨ne_local kcs (by decide), _, rfl⟩
    · rw [← wv_flatten]
      refine zline ?_
      have e : (((wavesAt x y z wd i).2.getD (i - 1) []).map fun v => moves v [x, y, z]).flatten = come2 [x, y, z] ((wavesAt x y z wd i).2.getD (i - 1) []) := rfl
      rw [e]
      simp only [wv, List.length_map]
      omega
    · intro base' cenv j Rv out kb hce hkn hRv hout
      obtain ⟨v, hv, rfl⟩ := wv_get hRv
      have eo : out = wv (moves v [x, y, z]) := by
        rw [List.getElem?_map, List.getElem?_map, hv] at hout
        simpa using hout.symm
      subst eo
      have Wb := W2'.mono kb
      have hfm' := (hfm.mono k2).mono kb
      exact ⟨true, fun _ _ => rfl, fun _ => Cl2.call hA hce Wb.B (VP.up _ _ _ _ kb X2.sg) rfl rfl hfm' (hkn.g rfl) rfl (fun base'' kb'' => c_moves (Wb.mono kb'') hA (hfm'.mono kb'') rfl (gw1 v (List.mem_of_getElem? hv))), fun h => nomatch h⟩
    · simp only [wv, List.length_map]; omega
    intro h3 t3 k3 F4
    obtain ⟨vC', ⟨c', us', rfl, hcn', hcp', hcx'⟩, hnC'⟩ := F4.named (x := "come") rfl
    have F5 := (hnC' (vr c') (flat_vr _).sq rfl).sl (G' := [("come", vr c'), ("cost", vi ((i + 1 : Nat) : Int)), ("costs", vr d), ("waves", vr R), ("signs", vr a)]) ⟨rfl, rfl, rfl, rfl, rfl, trivial⟩
    refine ex_nil (fin _ _ c' rfl (k1.tr (k2.kf.tr k3)) ?_ ⟨c', us', rfl, hcp'.isList, hcx'⟩ F5)
    cases e : s.heap.get? c' with
    | none => rfl
    | some o =>
      by_cases hm : c' ∈ fa env
      · obtain ⟨o', ho', _⟩ := F3.fa_some c' hm; rw [hcn'] at ho'; cases ho'
      · have := k2 _ _ (k1.kx c' o hm e); rw [hcn'] at this; cases this
  · intro hc h2 t2 k2 F3
    have hi1 : i = 0 := by have := of_decide_eq_false hc; omega
    refine fin _ _ c ?_ (k1.tr k2.kf) hcn (VP.up _ _ _ _ k2 hC1) F3
    unfold comes
    rw [if_neg (by omega)]
    simp only [Nat.add_sub_cancel]
end
end Mine
namespace Mine
open PySem PyProof.Rows PySem.Calls

section
variable {prog : Program} {w : World} {base : Heap} {A : Around} {mg mb : Str → Option Value} {E : Value → Shared → Prop} {s₀ s : Shared} {env : Env} {G : List (Str × VP)}

theorem rsize15 : Builtin.Range.rangeSize 1 5 1 = ((4 : Nat) : Int) := by decide
theorem small15 : Builtin.Range.small 1 5 1 = true := by decide
theorem rgi15_get {i : Nat} {R : VP} (h : ((rgi 1 1 4).map vi)[i]? = some R) : i < 4 ∧ R = vi ((i + 1 : Nat) : Int) := by
  have hl := (List.getElem?_eq_some_iff.mp h).1
  simp [rgi] at hl
  simp [rgi, hl] at h
  refine ⟨hl, ?_⟩
  rw [← h]; congr 1; omega

theorem waves_body (W : W2 mg mb base) (hA : OkA A 988) (he : env.scope = fscope 10) (fe : FEnv env) {wd : List Nat} {x y z : Nat} (hxy : x ≠ y) (hwd : wd.length ≤ 2) (hb : Kp base s₀.heap)
    (F : Fs s₀ env [("word", vs (S wd)), ("signs", vl (sv [x, y, z]))] s) :
    wpAny (model prog w) A (execs (fbody 10) env) (Ret s₀ (vdn prog w base (kvc (wavesAt x y z wd 4).1))) E s := by
  have ok := fe.toEnvOk
  obtain ⟨vS, hS, hnS⟩ := F.named (x := "signs") rfl
  obtain ⟨a, us, rfl, hus⟩ := id hS
  have F0 := (hnS (vr a) (flat_vr _).sq rfl).sl (G' := [("word", vs (S wd)), ("signs", vr a)]) ⟨rfl, rfl, trivial⟩
  have Ws := W.mono (hb.tr F0.keep)
  refine ex_swapV (base := s.heap) (P1 := vdn prog w s.heap [(wd, vi 0)]) (P2 := vlp s.heap [vlp s.heap [vs (S wd)]]) hA.h fe Kp.rf F0 (kdl he (.inl rfl)) (kdl he (.inl rfl)) ?_
    (PE.tup (PA.cons (PE.dict1 Ws.B (PE.name ok rfl rfl) PE.cint (flat_vi _)) (PA.cons (PE.listP (PA.cons (PE.listP (PA.cons (PE.name ok rfl rfl) PA.nil rfl) (by show 1 ≤ _; decide)) PA.nil rfl) (by show 1 ≤ _; decide)) PA.nil rfl) rfl) (by show 2 ≤ _; decide)) ?_
  · cases env; dsimp only at he; subst he; rfl
  rintro v1 v2 h1 h2 t2 k1 ⟨d, rfl, hdn, hD⟩ ⟨R, us2, rfl, hRn, hRp, hRx⟩ kf F2
  have hRx' : ∃ r ps, us2 = [Value.ref r] ∧ s.heap.get? r = none ∧ PlainL h1 r (List.toArray ps) ∧ All2 h1 ps [vs (S wd)] := by
    rcases us2 with _ | ⟨u, _ | ⟨_, _⟩⟩
    · exact hRx.elim
    · obtain ⟨⟨r, ps, e1, e2, e3, e4⟩, _⟩ := hRx
      exact ⟨r, ps, by rw [e1], e2, e3, e4⟩
    · exact hRx.2.elim
  obtain ⟨r, ps, rfl, hrn, hrp, hrx⟩ := hRx'
  have hdf : d ∉ fa env := fun q => by obtain ⟨o, e, _⟩ := F0.fa_some d q; rw [hdn] at e; cases e
  have X1 : WS prog w s.heap [x, y, z] a R d [r] [(wd, 0)] [[wd]] h1 := by
    refine ⟨⟨hRp, ?_, by simp, ?_, rfl, ?_, ?_⟩, hD, VP.up _ _ _ _ k1 hS⟩
    · intro q
      have e : R = r := by simpa using q
      subst e
      obtain ⟨o, n, ho, _, _, hd⟩ := hRp
      obtain ⟨o', n', ho', _, _, hd'⟩ := hrp
      rw [ho] at ho'; cases ho'
      rw [hd] at hd'
      have e2 : [Value.ref R].toArray = ps.toArray := by injection hd'
      have e3 : ps = [Value.ref R] := by simpa using e2.symm
      rw [e3] at hrx
      obtain ⟨⟨t, e4⟩, _⟩ := hrx
      cases e4
    · intro q hq
      simp at hq
      rcases hq with rfl | rfl
      · exact hRn
      · exact hrn
    · intro i q Ps e1 e2
      rcases i with _ | i
      · simp at e1; subst e1
        simp [wv] at e2; subst e2
        exact ⟨ps, hrp, hrx⟩
      · simp at e1
    · intro Ps hPs P hP
      simp [wv] at hPs; subst hPs
      simp at hP; subst hP; exact flat_vs _
  have X2 := X1.kf kf hdf
  have F3 := F2.sl (G' := [("costs", vr d), ("waves", vr R), ("signs", vr a)]) ⟨rfl, rfl, rfl, trivial⟩
  have haE : ∃ o, s.heap.get? a = some o := let ⟨o, h, _⟩ := vl_has hS; ⟨o, h⟩
  have h0E : Kp s₀.heap s.heap := F.keep
  have kE2 : ∀ r, h2.get? r = none → s.heap.get? r = none := fun r hr => by
    cases e : s.heap.get? r with
    | none => rfl
    | some o =>
      by_cases hm : r ∈ fa env
      · obtain ⟨o', ho', _⟩ := F3.fa_some r hm
        have ho'' : h2.get? r = some o' := ho'
        rw [hr] at ho''; cases ho''
      · have := kf.kx r o hm (k1 _ _ e); rw [hr] at this; cases this
  have hRE : s₀.heap.get? R = none := h0E.none hRn
  refine ex_for (base := base) fe (hb.tr F3.keep) F3 (R :: d :: fa env) ((rgi 1 1 4).map vi)
    (PE.tcall he ok W.B W.nrange rfl rfl (by decide) rfl do_range2 (PA.cons PE.cint (PA.cons PE.cint PA.nil rfl) rfl) rfl)
    (fun h' v _ hv => it_range hA.h hv small15 rsize15) (flat_vis _)
    (fun b hbm => by
      rcases List.mem_cons.mp hbm with rfl | hbm
      · obtain ⟨o, ho, _⟩ := X2.r.has zok_plainL b List.mem_cons_self; exact ⟨o, ho⟩
      · rcases List.mem_cons.mp hbm with rfl | hbm
        · obtain ⟨o, ho, _⟩ := X2.dv.has; exact ⟨o, ho⟩
        · obtain ⟨o, ho, _⟩ := F3.fa_some b hbm; exact ⟨o, ho⟩)
    (fun b hbm => by
      rcases List.mem_cons.mp hbm with rfl | hbm
      · exact hRE
      · rcases List.mem_cons.mp hbm with rfl | hbm
        · exact h0E.none hdn
        · exact F3.fa_fresh b hbm)
    (fun i s' => i ≤ 4 ∧ ∃ rs, rs.length = i + 1 ∧ WS prog w s.heap [x, y, z] a R d rs (wavesAt x y z wd i).1 (wavesAt x y z wd i).2 s'.heap ∧ Fs s₀ env [("costs", vr d), ("waves", vr R), ("signs", vr a)] s')
    ?_ ?_ ?_ ?_ (by intro x; rfl)
  · intro h' tk kp F'
    exact ⟨Nat.zero_le _, [r], rfl, X2.kp kp, F'⟩
  · rintro i s' h' tk ⟨hi, rs, hrs, X', F'⟩ kn k0
    exact ⟨hi, rs, hrs, X'.kn kn, F'.kn kn k0⟩
  · rintro i Rv s' v E' hR hRv ⟨hi, rs, hrs, X', F'⟩ kx hsame
    obtain ⟨hlt, rfl⟩ := rgi15_get hR
    refine store_ fe F' (kdl he (.inl rfl)) hRv (flat_vi _).sq fun h3 t3 k3 F4 => ?_
    refine waves_turn (base := base) W hA he fe hxy hlt hwd hb h0E haE hdn hdf F4 (X'.kf k3 hdf) hrs (fun r hr => ?_) fun s5 rs5 hrs5 F5 X5 kx5 => ?_
    · refine kE2 r ?_
      cases e : h2.get? r with
      | none => rfl
      | some o =>
        exfalso
        have hex : ∃ o', s'.heap.get? r = some o' := by
          by_cases hm : r ∈ R :: d :: fa env
          · rcases List.mem_cons.mp hm with rfl | hm
            · obtain ⟨o', h, _⟩ := X'.r.has zok_plainL r List.mem_cons_self; exact ⟨o', h⟩
            · rcases List.mem_cons.mp hm with rfl | hm
              · obtain ⟨o', h, _⟩ := X'.dv.has; exact ⟨o', h⟩
              · obtain ⟨o', h, _⟩ := F'.fa_some r hm; exact ⟨o', h⟩
          · exact ⟨o, kx r o hm e⟩
        obtain ⟨o', ho'⟩ := hex
        by_cases hm : r ∈ fa env
        · obtain ⟨o2, h, _⟩ := F4.fa_some r hm
          have h' : h3.get? r = some o2 := h
          have hr' : h3.get? r = none := hr
          rw [hr'] at h'; cases h'
        · have h' := k3.kx r o' hm ho'
          have hr' : h3.get? r = none := hr
          rw [hr'] at h'; cases h'
    · exact ⟨⟨hlt, rs5, hrs5, X5, F5⟩, (k3.kx.mono fun p hp => List.mem_cons_of_mem _ (List.mem_cons_of_mem _ hp)).tr kx5, F5.same⟩
  · rintro s' ⟨hi, rs, hrs, X', F'⟩ kx hsame
    have e : ((rgi 1 1 4).map vi).length = 4 := by simp [rgi]
    rw [e] at X'
    refine ex_ret (base := base) fe (hb.tr F'.keep) F' (PE.name ok rfl rfl) fun v h6 t6 k6 p => F'.ret k6 ?_
    have : v = .ref d := p
    subst this
    exact ⟨d, rfl, (hb.tr h0E).none hdn, X'.dv.up k6⟩

theorem c_waves (W : W2 mg mb base) (hA : OkA A 987) {f : Addr} (hf : FnAt mg base "_law_waves" (fargs 10) (fbody 10) (fscope 10) f) {wd : List Nat} {x y z : Nat} (hxy : x ≠ y) (hwd : wd.length ≤ 2) :
    Does prog w base A (.ref f) [vs (S wd), vl (sv [x, y, z])] (vdn prog w base (kvc (wavesAt x y z wd 4).1)) := by
  refine does_def ["word", "signs"] W.B hf (hA.room (by decide)) ?_ rfl (by decide) (by decide) (by
    intro P hP; simp at hP; rcases hP with rfl | rfl
    · exact (flat_vs _).sq
    · exact sq_vl fun P hP => (sv_flat _ P hP).sq) ?_
  · intro pm code doc us h
    rcases us with _ | ⟨x, _ | ⟨y, _ | ⟨z, us⟩⟩⟩ <;> simp at h
    rfl
  intro s₀ s env E he fe hb0 F
  exact waves_body W (hA.deeper env) he fe hxy hwd hb0 F
end
end Mine
namespace Mine
open PySem PyProof.Rows PySem.Calls

theorem any_flat {β : Type} (p : Nat → Bool) (g : Nat → β) : ∀ l : List Nat, (!((l.map fun k => if p k = true then [g k] else []).flatten).isEmpty) = l.any p
  | [] => rfl
  | a :: l => by
    rw [List.map_cons, List.flatten_cons, List.any_cons, ← any_flat p g l]
    cases h : p a <;> simp

section
variable {prog : Program} {w : World} {base : Heap} {A : Around} {mg mb : Str → Option Value} {E : Value → Shared → Prop} {s₀ s : Shared} {env : Env} {G : List (Str × VP)}

theorem piece_body (W : W2 mg mb base) (hA : OkA A 989) (hu : A.units < cLine) (he : env.scope = fscope 11) (fe : FEnv env) {p q : List Nat} (hp : p.length ≤ 2) (hq : q.length ≤ 2) (hb : Kp base s₀.heap)
    (F : Fs s₀ env [("one", vs (S p)), ("two", vs (S q))] s) :
    wpAny (model prog w) A (execs (fbody 11) env) (Ret s₀ (vb (onePiece p q))) E s := by
  have ok := fe.toEnvOk
  obtain ⟨sh, hsh⟩ : ∃ sh, sh = if p.length < q.length then p else q := ⟨_, rfl⟩
  obtain ⟨lo, hlo⟩ : ∃ lo, lo = if p.length < q.length then q else p := ⟨_, rfl⟩
  have hle : sh.length ≤ lo.length ∧ sh.length ≤ 2 ∧ lo.length ≤ 2 := by
    rw [hsh, hlo]; split <;> omega
  refine ex_unpack2 (base := base) (P1 := vs (S sh)) (P2 := vs (S lo)) hA.h fe (hb.tr F.keep) F (kdl he (.inr rfl)) (kdl he (.inr rfl)) (flat_vs _).sq (flat_vs _).sq rfl rfl
    (PE.ite (b := decide (p.length < q.length)) (PT.congr (PT.cmp (PE.len_s he ok W.B W.nlen (by omega) rfl (PE.name ok rfl rfl) rfl) (PE.len_s he ok W.B W.nlen (by omega) rfl (PE.name ok rfl rfl) rfl) oc_lt rfl) (by rw [Bool.eq_iff_iff, decide_eq_true_iff, decide_eq_true_iff]; omega))
      (fun h => (PE.tup (PA.cons (PE.name ok rfl rfl) (PA.cons (PE.name ok rfl rfl) PA.nil rfl) rfl) (by show 2 ≤ _; decide)).congr (by rw [hsh, hlo, if_pos (of_decide_eq_true h), if_pos (of_decide_eq_true h)]))
      (fun h => (PE.tup (PA.cons (PE.name ok rfl rfl) (PA.cons (PE.name ok rfl rfl) PA.nil rfl) rfl) (by show 2 ≤ _; decide)).congr (by rw [hsh, hlo, if_neg (of_decide_eq_false h), if_neg (of_decide_eq_false h)]))) ?_
  intro h1 t1 k1 F1
  refine ex_assign (base := base) (P := vi ((lo.length - sh.length : Nat) : Int)) fe (hb.tr F1.keep) F1 (kdl he (.inr rfl)) rfl (flat_vi _).sq
    ((PE.bin (PE.len_s he ok W.B W.nlen (by omega) rfl (PE.name ok rfl rfl) rfl) (PE.len_s he ok W.B W.nlen (by omega) rfl (PE.name ok rfl rfl) rfl) ob_sub).congr (by congr 1; omega)) ?_
  intro h2 t2 k2 F2
  have W2' := W.mono (hb.tr F2.keep)
  obtain ⟨pr, hpr⟩ : ∃ pr : Nat → Bool, pr = fun k => lo.take k ++ lo.drop (k + (lo.length - sh.length)) == sh := ⟨_, rfl⟩
  refine ex_ret (base := h2) fe Kp.rf F2 (PE.cmp (((PC.comp1 ((rgi 0 1 (sh.length + 1)).map vi) ((List.range (sh.length + 1)).map fun k => if pr k = true then [vi (k : Int)] else []) (F2.ce fe) ⟨by decide, rfl, by decide, by decide⟩
      (PE.tcall he ok W2'.B W2'.nrange rfl rfl (by decide) rfl do_range1 (PA.cons (PE.bin (PE.len_s he ok W2'.B W2'.nlen (by omega) rfl (PE.name ok rfl rfl) rfl) PE.cint ob_add) PA.nil rfl) rfl)
      (fun h v hv => it_range hA.h hv (small0 (n := sh.length + 1) (by simp) (by omega)) (rsize0 (n := sh.length + 1) (by simp))) (flat_vis _) (fun _ => [("long", vs (S lo)), ("gap", vi ((lo.length - sh.length : Nat) : Int)), ("short", vs (S sh))]) (fun h₁ _ => gf_same ?_ h₁) (free_of ["gap", "long", "short"] (by decide) ?_) (.inl rfl)
      (by simp [rgi]) ?_ ?_ ?_).pe (sq_vlp ?_)).weaken (fun _ _ => vlp_vl)) (PE.list PA.nil (by show 0 ≤ _; decide)) (oc_nenil hu) rfl) ?_
  · intro x hx
    simp only [List.mem_cons, List.not_mem_nil, or_false] at hx
    rcases hx with rfl | rfl | rfl
    · exact ⟨flat_vs _, rfl, rfl⟩
    · exact ⟨flat_vi _, rfl, rfl⟩
    · exact ⟨flat_vs _, rfl, rfl⟩
  · intro y hy
    simp only [List.mem_cons, List.not_mem_nil, or_false] at hy
    rcases hy with rfl | rfl | rfl
    · exact ⟨ne_local (kd he rfl : env.kindOf _ = some .cell) (by decide), _, rfl⟩
    · exact ⟨ne_local (kd he rfl : env.kindOf _ = some .cell) (by decide), _, rfl⟩
    · exact ⟨ne_local (kd he rfl : env.kindOf _ = some .cell) (by decide), _, rfl⟩
  · intro o ho P hP
    obtain ⟨k, _, rfl⟩ := List.mem_map.mp ho
    split at hP
    · simp at hP; subst hP; exact flat_vi _
    · cases hP
  · refine zline (Nat.le_trans (flatten_len1 _ ?_) (by simp; omega))
    intro o ho
    obtain ⟨k, _, rfl⟩ := List.mem_map.mp ho
    split <;> simp
  · intro b1 cenv b2 i R out kb1 hce hkn kb2 hR hout
    obtain ⟨hi, rfl⟩ := rgi01_get hR
    have okc := hce.toEnvOk
    have eo : out = if pr i = true then [vi (i : Int)] else [] := by
      rw [List.getElem?_map, List.getElem?_range hi] at hout
      simpa using hout.symm
    subst eo
    refine ⟨pr i, ?_, fun h => ?_, fun h => ?_⟩
    · rw [hpr]
      exact PT.cmp (PE.adds (by simp; omega) (PE.upto (by omega) (PE.name okc rfl rfl) (PE.name okc rfl rfl) (by intro _ _; rfl)) (PE.off (k := i + (lo.length - sh.length)) (by omega) (PE.name okc rfl rfl) (PE.bin (PE.name okc rfl rfl) (PE.name okc rfl rfl) ob_add) (by intro _ _; rfl))) (PE.name okc rfl rfl) oc_eqs rfl
    · rw [if_pos h]
      exact ⟨_, rfl, PE.name okc rfl rfl⟩
    · rw [if_neg (by rw [h]; decide)]
  · intro P hP
    obtain ⟨o, ho, hPo⟩ := List.mem_flatten.mp hP
    obtain ⟨k, _, rfl⟩ := List.mem_map.mp ho
    split at hPo
    · simp at hPo; subst hPo; exact (flat_vi _).sq
    · cases hPo
  · intro v h4 t4 k4 r
    refine F2.ret k4 ?_
    rw [any_flat pr (fun (k : Nat) => vi (k : Int))] at r
    have e : onePiece p q = (List.range (sh.length + 1)).any pr := by unfold onePiece; simp only; rw [← hsh, ← hlo, hpr]
    rw [e]
    exact r

theorem c_piece (W : W2 mg mb base) (hA : OkA A 988) (hu : A.units < 2000) {f : Addr} (hf : FnAt mg base "_law_one_piece" (fargs 11) (fbody 11) (fscope 11) f) {p q : List Nat} (hp : p.length ≤ 2) (hq : q.length ≤ 2) :
    Does prog w base A (.ref f) [vs (S p), vs (S q)] (vb (onePiece p q)) := by
  refine does_def ["one", "two"] W.B hf (hA.room (by decide)) ?_ rfl (by decide) (by decide) (sq_flat2 (flat_vs _) (flat_vs _)) ?_
  · intro pm code doc us h
    rcases us with _ | ⟨x, _ | ⟨y, _ | ⟨z, us⟩⟩⟩ <;> simp at h
    rfl
  intro s₀ s env E he fe hb0 F
  refine piece_body W (hA.deeper env) ?_ he fe hp hq hb0 F
  rw [units_deeper]; unfold cLine; omega

theorem c_right2 (W : W2 mg mb base) (hA : OkA A 987) (hu : A.units < 1000) {f : Addr} (hf : FnAt mg base "_law_right" (fargs 12) (fbody 12) (fscope 12) f) {a b : List Nat} {c m : Int}
    (ha : ∀ c ∈ a, c < 128) (hbs : ∀ c ∈ b, c < 128) (hal : a.length ≤ 2) (hbl : b.length ≤ 2) (hr : right2 a b c m = true) :
    Does prog w base A (.ref f) [vs (S a), vs (S b), vi c, vi m] (vb true) := by
  refine does_def ["one", "two", "cost", "bound"] W.B hf (hA.room (by decide)) ?_ rfl (by decide) (by decide) (by
    intro P hP; simp at hP; rcases hP with rfl | rfl | rfl | rfl
    · exact (flat_vs _).sq
    · exact (flat_vs _).sq
    · exact (flat_vi _).sq
    · exact (flat_vi _).sq) ?_
  · intro pm code doc us h
    rcases us with _ | ⟨x, _ | ⟨y, _ | ⟨z, _ | ⟨u, _ | ⟨t, us⟩⟩⟩⟩⟩ <;> simp at h
    rfl
  intro s₀ s env E he fe hb F
  have ok := fe.toEnvOk
  obtain ⟨fl, hfl⟩ := W.flev
  obtain ⟨fp, hfp⟩ := W.fpiece
  have hA' := hA.deeper env
  have hu' : (A.deeper env).units < 2000 := by rw [units_deeper]; omega
  refine ex_assign (base := base) fe (hb.tr F.keep) F (kdl he (.inl rfl)) rfl (flat_vi _).sq (PE.callD he ok W.B hfl rfl rfl (PA.cons (PE.name ok rfl rfl) (PA.cons (PE.name ok rfl rfl) (PA.cons (PE.name ok rfl rfl) PA.nil rfl) rfl) rfl) rfl (c_lev W.toW0 hA' hfl hbs ha (by omega) (by omega))) ?_
  intro h1 t1 k1 F1
  unfold right2 at hr
  rw [Bool.and_eq_true] at hr
  obtain ⟨hr1, hr2⟩ := hr
  refine ex_if1 (base := base) fe (hb.tr F1.keep) F1 (PT.and (PT.cmp (PE.name ok rfl rfl) (PE.name ok rfl rfl) oc_ne rfl) fun _ => PT.and (PT.or (PT.cmp (PE.name ok rfl rfl) (PE.bin (PE.name ok rfl rfl) PE.cint ob_sub) oc_ge rfl) fun _ =>
    PT.or (PT.plain (PE.callD he ok W.B hfp rfl rfl (PA.cons (PE.name ok rfl rfl) (PA.cons (PE.name ok rfl rfl) PA.nil rfl) rfl) rfl (c_piece W hA' hu' hfp hal hbl)) tr_b rfl) fun _ => PT.or (PT.cmp (PE.name ok rfl rfl) (PE.name ok rfl rfl) oc_le rfl) fun _ => PT.or_nil) fun _ => PT.and_nil) ?_ ?_
  · intro hc
    exfalso
    rw [Bool.and_true, Bool.and_eq_true, Bool.or_false] at hc
    obtain ⟨c1, c2⟩ := hc
    rw [c2] at hr1
    rw [Bool.not_true, Bool.or_false] at hr1
    have e1 := beq_iff_eq.mp hr1
    have e2 := bne_iff_ne.mp c1
    exact e2 e1
  intro hc h2 t2 k2 F2
  refine ex_ret (base := base) fe (hb.tr F2.keep) F2 (PE.cmp (PE.callD he ok W.B hfl rfl rfl (PA.cons (PE.name ok rfl rfl) (PA.cons (PE.name ok rfl rfl) (PA.cons PE.cint PA.nil rfl) rfl) rfl) rfl (c_lev W.toW0 hA' hfl ha hbs (by omega) (by omega))) (PE.name ok rfl rfl) oc_eq rfl) fun v h3 t3 k3 p => F2.ret k3 ?_
  rw [hr2] at p
  exact p
end
end Mine
namespace Mine
open PySem PyProof.Rows PySem.Calls

def smalls : List Nat := [97, 98, 99, 100, 107, 109, 120, 121]
def thirds : List Nat := [95, 48, 46, 57]
def fst2 (ns : List Int) : Int := (ns ++ [1]).getD 0 0
def sx (ns : List Int) : Nat := smalls.getD ((fst2 ns).fmod 8).toNat 0
def sy (ns : List Int) : Nat := up1 (sx ns)
def sz (ns : List Int) : Nat := thirds.getD (((fst2 ns).fdiv 8).fmod 4).toNat 0
def bd (ns : List Int) : Int := (ns.sum.fdiv 13).fmod 5

theorem fmod_range (a : Int) {b : Int} (h : 0 < b) : 0 ≤ a.fmod b ∧ a.fmod b < b := ⟨Int.fmod_nonneg_of_pos a h, Int.fmod_lt_of_pos a h⟩
theorem ix_get {l : List Nat} {i : Int} (h : 0 ≤ i ∧ i < l.length) : (seqIndex? i l.length).bind (l[·]?) = some (l.getD i.toNat 0) := by
  obtain ⟨n, rfl⟩ := Int.eq_ofNat_of_zero_le h.1
  have hn : n < l.length := by omega
  have e : ((n : Nat) : Int).toNat = n := by omega
  show (seqIndex? ((n : Nat) : Int) l.length).bind (l[·]?) = _
  rw [seqIx hn]
  simp [List.getD, hn]

/-- what check2 says -/
theorem check2_at {x y z : Nat} (h : check2 x y z = true) {wd one : List Nat} (h1 : wd ∈ words3 [x, y, z]) (h2 : one ∈ words3 [x, y, z]) :
    ∃ c, (wavesAt x y z wd 4).1.lookup one = some c ∧ ∀ m : Int, 0 ≤ m → m < 5 → right2 wd one c m = true := by
  unfold check2 at h
  have h3 := List.all_eq_true.mp (List.all_eq_true.mp h wd h1) one h2
  cases e : (wavesAt x y z wd 4).1.lookup one with
  | none =>
    rw [e] at h3
    have h4 : false = true := h3
    cases h4
  | some c =>
    rw [e] at h3
    have h3 : ((List.range 5).all fun b => right2 wd one c b) = true := h3
    refine ⟨c, rfl, fun m m0 m5 => ?_⟩
    have := List.all_eq_true.mp h3 m.toNat (by simp; omega)
    have e2 : ((m.toNat : Nat) : Int) = m := by omega
    rw [e2] at this
    exact this

section
variable {prog : Program} {w : World} {base : Heap} {A : Around} {mg mb : Str → Option Value} {E : Value → Shared → Prop} {s₀ s : Shared} {env : Env} {G : List (Str × VP)}

abbrev lawB : List Stmt := forBody (fbody 13)[4]?

/-- a turn of the law's loop -/
theorem law2_turn (W : W2 mg mb base) (hA : OkA A 987) (hu : A.units < 1000) (he : env.scope = fscope 13) (fe : FEnv env) {x y z : Nat} {tot m : Int} {aw : Addr} {wd : List Nat} {Q : Flow → Shared → Prop}
    (hck : check2 x y z = true) (hxy : x ≠ y) (hlt : ∀ c ∈ [x, y, z], c < 128) (hm : m = (tot.fdiv 13).fmod 5) (hb : Kp base s₀.heap) (hwd : wd ∈ words3 [x, y, z])
    (F : Fs s₀ env [("word", vs (S wd)), ("total", vi tot), ("signs", vl (sv [x, y, z])), ("words", vr aw)] s) (hW : (vl (wv (words3 [x, y, z]))).p s.heap (.ref aw))
    (k : ∀ s', Fs s₀ env [("total", vi tot), ("signs", vl (sv [x, y, z])), ("words", vr aw)] s' → (vl (wv (words3 [x, y, z]))).p s'.heap (.ref aw) → KX (fa env) s.heap s'.heap → Q .next s') :
    wpAny (model prog w) A (execs lawB env) Q E s := by
  have ok := fe.toEnvOk
  have hmem := growN_mem (sg := [x, y, z]) 2
  rw [growN_two] at hmem
  have sqw : ∀ ws, Sq (vl (wv ws)) := fun ws => sq_vl fun P hP => (wv_flat _ P hP).sq
  have Ws := W.mono (hb.tr F.keep)
  obtain ⟨fv, hfv⟩ := Ws.fwaves
  have hw2 := hmem wd hwd
  refine ex_assignV (base := s.heap) (P := vdn prog w s.heap (kvc (wavesAt x y z wd 4).1)) fe Kp.rf F (kdl he (.inr rfl)) rfl
    (PE.callD he ok Ws.B hfv rfl rfl (PA.cons (PE.name ok rfl rfl) (PA.cons (PE.name ok rfl rfl) PA.nil rfl) rfl) rfl (c_waves Ws hA hfv hxy hw2.1)) ?_
  rintro v h1 h2 t2 k1 ⟨d, rfl, hdn, hD⟩ kf F2
  have hdf : d ∉ fa env := fun q => by obtain ⟨o, e, _⟩ := F.fa_some d q; rw [hdn] at e; cases e
  have hD2 : DV prog w h2 d (kvc (wavesAt x y z wd 4).1) := hD.kx (kvc_flat _) kf.kx hdf
  have hW2 : (vl (wv (words3 [x, y, z]))).p h2 (.ref aw) := (sqw _) _ _ _ kf.ks (VP.up _ _ _ _ k1 hW)
  have W2' := W.mono (hb.tr F2.keep)
  obtain ⟨fr, hfr⟩ := W2'.fright
  have hu' : A.units < cLine := by unfold cLine; omega
  have e0 : ((words3 [x, y, z]).map fun _ => ([] : List VP)).flatten = [] := by
    generalize words3 [x, y, z] = l
    induction l with
    | nil => rfl
    | cons a l ih => simpa using ih
  refine ex_if1 (base := h2) (b := false) fe Kp.rf F2 (PT.cmp (((PC.comp1 (wv (words3 [x, y, z])) ((words3 [x, y, z]).map fun _ => []) (F2.ce fe) ⟨by decide, rfl, by decide, by decide⟩ (PE.known (PE.name ok rfl rfl) hW2) (fun h v hv => it_vl hA.h hv) (wv_flat _)
      (fun _ => [("costs", vr d), ("total", vi tot), ("word", vs (S wd))]) (fun h₁ _ => gf_same ?_ h₁) (free_of ["costs", "total", "word"] (by decide) ?_) (.inl rfl) (by simp [wv]) ?_ (by rw [e0]; exact Nat.zero_le _) ?_).pe (sq_vlp ?_)).weaken (R' := vl []) (fun _ _ q => by rw [e0] at q; exact vlp_vl q))
      (PE.list PA.nil (by show 0 ≤ _; decide)) (oc_nenil (Ps := []) hu') rfl) (fun h => nomatch h) ?_
  · intro p hp
    simp only [List.mem_cons, List.not_mem_nil, or_false] at hp
    rcases hp with rfl | rfl | rfl
    · exact ⟨flat_vr _, rfl, rfl⟩
    · exact ⟨flat_vi _, rfl, rfl⟩
    · exact ⟨flat_vs _, rfl, rfl⟩
  · intro q hq
    simp only [List.mem_cons, List.not_mem_nil, or_false] at hq
    rcases hq with rfl | rfl | rfl
    · exact ⟨ne_local (kd he rfl : env.kindOf _ = some .cell) (by decide), _, rfl⟩
    · exact ⟨ne_local (kd he rfl : env.kindOf _ = some .cell) (by decide), _, rfl⟩
    · exact ⟨ne_local (kd he rfl : env.kindOf _ = some .cell) (by decide), _, rfl⟩
  · intro o ho P hP
    obtain ⟨u, _, rfl⟩ := List.mem_map.mp ho
    cases hP
  · intro b1 cenv b2 i R out kb1 hce hkn kb2 hR hout
    obtain ⟨one, hone, rfl⟩ := wv_get hR
    have okc := hce.toEnvOk
    have kb := kb1.tr kb2
    have Wc := W2'.mono kb
    have eo : out = [] := by
      rw [List.getElem?_map, hone] at hout
      simpa using hout.symm
    subst eo
    have hom := List.mem_of_getElem? hone
    obtain ⟨c, hc, hr⟩ := check2_at hck hwd hom
    have hr' := hr m (by rw [hm]; exact (fmod_range _ (by decide)).1) (by rw [hm]; exact (fmod_range _ (by decide)).2)
    have ho2 := hmem one hom
    refine ⟨false, ?_, (fun h => nomatch h), fun _ => rfl⟩
    refine PT.congr (PT.not (PT.plain (PE.dc okc Wc.B (hfr.mono kb) (hkn.g rfl) rfl (PA.cons (PE.name okc rfl rfl) (PA.cons (PE.name okc rfl rfl) (PA.cons (PE.getd (R := vi c) (PE.known (R := vdv prog w (kvc (wavesAt x y z wd 4).1)) (PE.name okc rfl rfl) ⟨d, rfl, hD2.up kb⟩) (PE.name okc rfl rfl) (by rw [kvc_lookup, hc]; rfl) (by intro _ _; rfl))
      (PA.cons ((PE.bin (PE.bin (PE.name okc rfl rfl) PE.cint (ob_div (by decide) (PyProof.noPylong_of_log2 (by decide)))) PE.cint (ob_mod (by decide))).congr (by rw [hm])) PA.nil rfl) rfl) rfl) rfl) rfl
      (c_right2 Wc hA hu (hfr.mono kb) (fun c hc => hlt c (hw2.2 c hc)) (fun c hc => hlt c (ho2.2 c hc)) hw2.1 ho2.1 hr')) tr_b rfl)) rfl
  · intro P hP
    rw [e0] at hP; cases hP
  · intro _ h3 t3 k3 F3
    refine ex_nil (k _ (F3.sl ⟨rfl, rfl, rfl, trivial⟩) (VP.up _ _ _ _ k3 hW2) ?_)
    exact k1.kx.tr (kf.kx.tr k3.kx)
end
end Mine
namespace Mine
open PySem PyProof.Rows PySem.Calls

theorem words3_len (x y z : Nat) : (words3 [x, y, z]).length = 13 := rfl
def pick (x y z : Nat) (i : Int) : List Nat := (words3 [x, y, z]).getD (i.fmod 13).toNat []
theorem pick_mem (x y z : Nat) (i : Int) : pick x y z i ∈ words3 [x, y, z] := by
  have h := fmod_range i (b := 13) (by decide)
  have hl : (i.fmod 13).toNat < (words3 [x, y, z]).length := by rw [words3_len]; omega
  unfold pick
  have e : (words3 [x, y, z]).getD (i.fmod 13).toNat [] = (words3 [x, y, z])[(i.fmod 13).toNat] := by simp [List.getD, hl]
  rw [e]
  exact List.getElem_mem hl
theorem pick_get (x y z : Nat) (i : Int) : (wv (words3 [x, y, z]))[(i.fmod 13).toNat]? = some (vs (S (pick x y z i))) := by
  have h := fmod_range i (b := 13) (by decide)
  have hl : (i.fmod 13).toNat < (words3 [x, y, z]).length := by rw [words3_len]; omega
  unfold wv pick
  have e : (words3 [x, y, z]).getD (i.fmod 13).toNat [] = (words3 [x, y, z])[(i.fmod 13).toNat] := by simp [List.getD, hl]
  rw [List.getElem?_map, List.getElem?_eq_getElem hl, e]
  rfl
theorem cut12 (ns : List Int) : cutL (ns.map vi) (some ((1 : Nat) : Int)) (some ((2 : Nat) : Int)) = ((ns.drop 1).take 1).map vi := by
  have : cutL (ns.map vi) (some ((1 : Nat) : Int)) (some ((2 : Nat) : Int)) = ((ns.map vi).drop 1).take 1 := by
    unfold cutL clipN
    simp only [List.length_map]
    rw [if_neg (by omega), if_neg (by omega)]
    rcases ns with _ | ⟨a, _ | ⟨b, l⟩⟩
    · rfl
    · rfl
    · simp only [List.length_cons]
      have e1 : (max 0 (min ((1 : Nat) : Int) ((l.length + 1 + 1 : Nat) : Int))).toNat = 1 := by omega
      have e2 : (max 0 (min ((2 : Nat) : Int) ((l.length + 1 + 1 : Nat) : Int))).toNat = 2 := by omega
      rw [e1, e2]
  rw [this, List.map_take, List.map_drop]
def chosen (x y z : Nat) (ns : List Int) : List (List Nat) := [pick x y z (ns.sum + 10)] ++ ((ns.drop 1).take 1).map (pick x y z)

section
variable {prog : Program} {w : World} {base : Heap} {A : Around} {mg mb : Str → Option Value} {E : Value → Shared → Prop} {s₀ s : Shared} {env : Env} {G : List (Str × VP)}

set_option maxHeartbeats 2000000 in
theorem law2_body (W : W2 mg mb base) (hA : OkA A 987) (hu : A.units < 1000) (he : env.scope = fscope 13) (fe : FEnv env) {ns : List Int} (hn : ns.length ≤ 63)
    (hck : check2 (sx ns) (sy ns) (sz ns) = true) (hxy : sx ns ≠ sy ns) (hlt : ∀ c ∈ [sx ns, sy ns, sz ns], c < 128) (hb : Kp base s₀.heap)
    (F : Fs s₀ env [("script", vl (ns.map vi))] s) :
    wpAny (model prog w) A (execs (fbody 13) env) (Ret s₀ (vb true)) E s := by
  have ok := fe.toEnvOk
  have sqi : ∀ l : List Int, Sq (vl (l.map vi)) := fun l => sq_vl fun P hP => (flat_vis _ P hP).sq
  have sqw : ∀ ws, Sq (vl (wv ws)) := fun ws => sq_vl fun P hP => (wv_flat _ P hP).sq
  have sqs : ∀ l, Sq (vl (sv l)) := fun l => sq_vl fun P hP => (sv_flat _ P hP).sq
  refine ex_unpack2 (base := base) (P1 := vi (fst2 ns)) (P2 := vi ns.sum) hA.h fe (hb.tr F.keep) F (kdl he (.inl rfl)) (kdl he (.inr rfl)) (flat_vi _).sq (flat_vi _).sq rfl ?_
    (PE.tup (PA.cons (PE.item_l (Ps := (ns ++ [1]).map vi) ((PE.bin (PE.name ok rfl rfl) (PE.list (PA.cons PE.cint PA.nil rfl) (by show 1 ≤ _; decide)) (ob_addl (zline (by simp; omega)))).weaken (fun _ _ q => by
        have e : ns.map vi ++ [vi 1] = (ns ++ [1]).map vi := by simp
        rw [e] at q; exact vlp_vl q)) PE.cint (by decide) (by decide) ?_ (by intro _ _; rfl))
      (PA.cons (PE.bcall he ok W.B W.nsum rfl rfl (by decide) rfl (do_sum hA.h) (PA.cons (PE.name ok rfl rfl) PA.nil rfl) rfl) PA.nil rfl) rfl) (by show 2 ≤ _; decide)) ?_
  · cases env; dsimp only at he; subst he; rfl
  · unfold fst2
    cases ns with
    | nil => rfl
    | cons a l => rfl
  intro h1 t1 k1 F1
  have e8 : Str.ofString "abcdkmxy" = S smalls := by decide +kernel
  have e4 : Str.ofString "_0.9" = S thirds := by decide +kernel
  refine ex_assign (base := base) (P := vs (S [sx ns])) fe (hb.tr F1.keep) F1 (kdl he (.inl rfl)) rfl (flat_vs _).sq
    (PE.item_s (l := smalls) (i := (fst2 ns).fmod 8) (PE.cstr.congr (by rw [e8])) (PE.bin (PE.name ok rfl rfl) PE.cint (ob_mod (by decide))) (by have := fmod_range (fst2 ns) (b := 8) (by decide); omega) (ix_get (fmod_range _ (by decide))) (by intro _ _; rfl)) ?_
  intro h2 t2 k2 F2
  refine ex_assign (base := base) (P := vl (sv [sx ns, sy ns, sz ns])) fe (hb.tr F2.keep) F2 (kdl he (.inl rfl)) rfl (sqs _)
    (PE.list (PA.cons (PE.name ok rfl rfl) (PA.cons (PE.upper (l := [sx ns]) (PE.name ok rfl rfl) (by intro c hc; simp at hc; subst hc; exact hlt _ (by simp)) (by simp) rfl rfl)
      (PA.cons (PE.item_s (l := thirds) (i := ((fst2 ns).fdiv 8).fmod 4) (PE.cstr.congr (by rw [e4])) (PE.bin (PE.bin (PE.name ok rfl rfl) PE.cint (ob_div (by decide) (PyProof.noPylong_of_log2 (by decide)))) PE.cint (ob_mod (by decide))) (by have := fmod_range ((fst2 ns).fdiv 8) (b := 4) (by decide); omega) (ix_get (fmod_range _ (by decide))) (by intro _ _; rfl)) PA.nil rfl) rfl) rfl) (by show 3 ≤ _; decide)) ?_
  intro h3 t3 k3 F3
  obtain ⟨fw, hfw⟩ := W.fwords
  refine ex_assign (base := base) (P := vl (wv (words3 [sx ns, sy ns, sz ns]))) fe (hb.tr F3.keep) F3 (kdl he (.inr rfl)) rfl (sqw _)
    (PE.callD he ok W.B hfw rfl rfl (PA.cons (PE.name ok rfl rfl) PA.nil rfl) rfl (c_words W (hA.mono (by decide)) hfw rfl)) ?_
  intro h4 t4 k4 F4
  obtain ⟨vW, hW4, hnW⟩ := F4.named (x := "words") rfl
  obtain ⟨aw, us, rfl, hus⟩ := id hW4
  have F5 := (hnW (vr aw) (flat_vr _).sq rfl).sl (G' := [("script", vl (ns.map vi)), ("total", vi ns.sum), ("signs", vl (sv [sx ns, sy ns, sz ns])), ("words", vr aw)]) ⟨rfl, rfl, rfl, rfl, trivial⟩
  have W4 := W.mono (hb.tr F5.keep)
  refine ex_for (base := h4) fe Kp.rf F5 (fa env) (wv (chosen (sx ns) (sy ns) (sz ns) ns)) (P := vlp h4 (wv (chosen (sx ns) (sy ns) (sz ns) ns)))
    ((PE.bin (PE.list (PA.cons (PE.item_l (i := (ns.sum + 10).fmod 13) (PE.known (PE.name ok rfl rfl) hW4) (PE.bin (PE.bin (PE.name ok rfl rfl) PE.cint ob_add) PE.cint (ob_mod (by decide))) (fmod_range _ (by decide)).1 (by have := (fmod_range (ns.sum + 10) (b := 13) (by decide)).2; omega) (pick_get _ _ _ _) (by intro _ _; rfl)) PA.nil rfl) (by show 1 ≤ _; decide))
      (((PC.comp1 (P := vl (((ns.drop 1).take 1).map vi)) (((ns.drop 1).take 1).map vi) (((ns.drop 1).take 1).map fun i => [vs (S (pick (sx ns) (sy ns) (sz ns) i))]) (F5.ce fe) ⟨by decide, rfl, by decide, by decide⟩
        ((PE.lsl (Ps := ns.map vi) (lo := some ((1 : Nat) : Int)) (hi := some ((2 : Nat) : Int)) (zline (by simp; omega)) (PE.name ok rfl rfl) (PO.some PE.cint) (PO.some PE.cint) (by intro _ _; rfl)).congr (by rw [cut12]))
        (fun h v hv => it_vl hA.h hv) (flat_vis _) (fun _ => [("words", vr aw)]) (fun h₁ _ => gf_same ?_ h₁) (free_of ["words"] (by decide) ?_) (.inl rfl) (by simp) ?_ ?_ ?_).pe (sq_vlp ?_)).weaken
          (R' := vl (wv (((ns.drop 1).take 1).map (pick (sx ns) (sy ns) (sz ns))))) (fun _ _ q => by rw [wv_single]; exact vlp_vl q)) (ob_addl (zline ?_))).weaken (fun _ _ q => q))
    (fun h' v kp hv => by
      obtain ⟨a', us', rfl, hn', hp', hx'⟩ := hv
      exact it_list hA.h hp'.isList hx' fun q => by
        obtain ⟨o, ho, _⟩ := F5.fa_some a' q
        have ho' : h4.get? a' = some o := ho
        rw [hn'] at ho'; cases ho')
    (wv_flat _) (fun b hb => let ⟨o, e, _⟩ := F5.fa_some b hb; ⟨o, e⟩) (fun b hb => F5.fa_fresh b hb)
    (fun i s' => (vl (wv (words3 [sx ns, sy ns, sz ns]))).p s'.heap (.ref aw) ∧ Fs s₀ env [("total", vi ns.sum), ("signs", vl (sv [sx ns, sy ns, sz ns])), ("words", vr aw)] s')
    ?_ ?_ ?_ ?_ (by intro x; rfl)
  · intro p hp
    simp only [List.mem_cons, List.not_mem_nil, or_false] at hp
    subst hp; exact ⟨flat_vr _, rfl, rfl⟩
  · intro q hq
    simp only [List.mem_cons, List.not_mem_nil, or_false] at hq
    subst hq; exact ⟨ne_local (kd he rfl : env.kindOf _ = some .cell) (by decide), _, rfl⟩
  · intro o ho P hP
    obtain ⟨u, _, rfl⟩ := List.mem_map.mp ho
    simp at hP; subst hP; exact flat_vs _
  · refine zline (Nat.le_trans (flatten_len1 _ ?_) (by simp; omega))
    intro o ho
    obtain ⟨u, _, rfl⟩ := List.mem_map.mp ho
    simp
  · intro b1 cenv b2 i R out kb1 hce hkn kb2 hR hout
    rw [List.getElem?_map] at hR hout
    obtain ⟨x, hx, rfl⟩ := Option.map_eq_some_iff.mp hR
    rw [hx] at hout
    have eo : out = [vs (S (pick (sx ns) (sy ns) (sz ns) x))] := by simpa using hout.symm
    subst eo
    have okc := hce.toEnvOk
    exact ⟨true, rfl, fun _ => ⟨_, rfl, PE.item_l (i := x.fmod 13) (PE.known (PE.name okc rfl rfl) (VP.up _ _ _ _ (kb1.tr kb2) hW4)) (PE.bin (PE.name okc rfl rfl) PE.cint (ob_mod (by decide))) (fmod_range _ (by decide)).1 (by have := (fmod_range x (b := 13) (by decide)).2; omega) (pick_get _ _ _ _) (by intro _ _; rfl)⟩, fun h => nomatch h⟩
  · intro P hP
    obtain ⟨o, ho, hPo⟩ := List.mem_flatten.mp hP
    obtain ⟨u, _, rfl⟩ := List.mem_map.mp ho
    simp at hPo; subst hPo; exact (flat_vs _).sq
  · simp [wv]; omega
  · intro h' tk kp F'
    exact ⟨VP.up _ _ _ _ kp hW4, F'.sl ⟨rfl, rfl, rfl, trivial⟩⟩
  · rintro i s' h' tk ⟨hW', F'⟩ kn k0
    exact ⟨(sqw _) _ _ _ kn.ks hW', F'.kn kn k0⟩
  · rintro i Rv s' v E' hR hRv ⟨hW', F'⟩ kx hsame
    obtain ⟨wd, hwd, rfl⟩ := wv_get hR
    have hwm : wd ∈ words3 [sx ns, sy ns, sz ns] := by
      have := List.mem_of_getElem? hwd
      unfold chosen at this
      rcases List.mem_append.mp this with h | h
      · have : wd = pick (sx ns) (sy ns) (sz ns) (ns.sum + 10) := by simpa using h
        rw [this]; exact pick_mem _ _ _ _
      · obtain ⟨x, _, rfl⟩ := List.mem_map.mp h
        exact pick_mem _ _ _ _
    refine store_ fe F' (kdl he (.inr rfl)) hRv (flat_vs _).sq fun h6 t6 k6 F6 => ?_
    exact law2_turn W hA hu he fe hck hxy hlt rfl hb hwm F6 ((sqw _) _ _ _ k6.ks hW') fun s7 F7 hW7 kx7 => ⟨⟨hW7, F7⟩, k6.kx.tr kx7, F7.same⟩
  · rintro s' ⟨hW', F'⟩ kx hsame
    exact ex_ret (base := base) fe (hb.tr F'.keep) F' PE.cbool fun v h7 t7 k7 p => F'.ret k7 p

theorem c_law2 (W : W2 mg mb base) (hA : OkA A 986) (hu : A.units < 900) {f : Addr} (hf : FnAt mg base "law" (fargs 13) (fbody 13) (fscope 13) f) {ns : List Int} (hn : ns.length ≤ 63)
    (hck : check2 (sx ns) (sy ns) (sz ns) = true) (hxy : sx ns ≠ sy ns) (hlt : ∀ c ∈ [sx ns, sy ns, sz ns], c < 128) :
    Does prog w base A (.ref f) [vl (ns.map vi)] (vb true) := by
  refine does_def ["script"] W.B hf (hA.room (by decide)) ?_ rfl (by decide) (by decide) (by
    intro P hP; simp at hP; subst hP; exact sq_vl fun P hP => (flat_vis _ P hP).sq) ?_
  · intro pm code doc us h
    rcases us with _ | ⟨x, _ | ⟨y, us⟩⟩ <;> simp at h
    rfl
  intro s₀ s env E he fe hb0 F
  refine law2_body W (hA.deeper env) ?_ he fe hn hck hxy hlt hb0 F
  rw [units_deeper]; omega
end
end Mine
namespace Mine
open PySem PySem.W PyProof.Rows PySem.Calls

def fpos (i : Nat) : Pos := match pw.main.body[i]? with | some (.FunctionDef _ _ _ _ _ _ _ _ _ p) => p | _ => ⟨0, 0, 0, 0⟩
def frec (name : Str) (i : Nat) : DefRec := ⟨name, fargs i, fbody i, fscope i, fpos i⟩

section
variable {p : Program} {loose : List Str} {mean : ExcName → Option Value} {mg mb : Str → Option Value} {h : Heap}

theorem fn_of_top (T : Top p loose mean mg mb h) {name : Str} {i : Nat} (hm : frec name i ∈ recsOf p) : ∃ f, FnAt mg h name (fargs i) (fbody i) (fscope i) f := by
  obtain ⟨a, o, pm, code, doc, h1, h2, h3, h4⟩ := T.fn _ hm
  exact ⟨a, h1, o, pm, code, doc, h2, h3, h4⟩
theorem int_of_top (T : Top p loose mean mg mb h) {x : Str} {i : Int} (hv : valOf p x = some (.int i)) : ∃ t, mg x = some (.int i t) := by
  obtain ⟨v, h1, h2⟩ := T.const x _ hv
  have := h2 h
  cases this
  exact ⟨_, h1⟩
def freeOk (p : Program) (loose : List Str) (x : Str) : Bool := !(startupNames.contains x || loose.contains x || ((recsOf p).map (·.name)).contains x || ((litsOf p).map (·.1)).contains x || ((clssOf p loose).map (·.name)).contains x)
theorem none_of_top (T : Top p loose mean mg mb h) {x : Str} (hx : freeOk p loose x = true) : mg x = none := by
  unfold freeOk at hx
  simp only [Bool.not_eq_true', Bool.or_eq_false_iff, List.contains_eq_mem, decide_eq_false_iff_not] at hx
  obtain ⟨⟨⟨⟨a, b⟩, c⟩, d⟩, e⟩ := hx
  exact T.free x a b c d e

theorem w2_of (T : Top p loose mean mg mb h)
    (hr : recsOf p = [frec "_substitution_cost" 4, frec "_levenshtein_distance" 5, frec "_law_words" 7, frec "_law_moves" 8, frec "_law_turned" 9, frec "_law_waves" 10, frec "_law_one_piece" 11, frec "_law_right" 12, frec "law" 13])
    (hf : ((["len", "min", "range", "list", "sum"] : List Str).all (freeOk p loose)) = true)
    (c1 : valOf p "_MOVE_COST" = some (.int 2)) (c2 : valOf p "_CASE_COST" = some (.int 1)) (c3 : valOf p "_MAX_STRING_SIZE" = some (.int 40)) :
    W2 mg mb h ∧ ∃ f, FnAt mg h "law" (fargs 13) (fbody 13) (fscope 13) f := by
  have hf' : ∀ x ∈ (["len", "min", "range", "list", "sum"] : List Str), mg x = none := fun x hx => none_of_top T (List.all_eq_true.mp hf x hx)
  refine ⟨⟨⟨⟨T.g, T.b, T.nolimit, T.builtins⟩, int_of_top T c1, int_of_top T c2, int_of_top T c3, fn_of_top T ?_, fn_of_top T ?_, hf' _ (by simp), hf' _ (by simp), hf' _ (by simp), hf' _ (by simp)⟩, fn_of_top T ?_, fn_of_top T ?_, fn_of_top T ?_, fn_of_top T ?_, fn_of_top T ?_, fn_of_top T ?_, hf' _ (by simp)⟩, fn_of_top T ?_⟩ <;> rw [hr] <;> simp only [List.mem_cons, true_or, or_true]
end

/-- the end, as the head asks for it -/
theorem good_true {c : ClaimW} {cl : Str → Option Addr} {mean : ExcName → Option Value} {args : List WData} {s₁ : Shared} {h' : Heap} {tk : Nat} (hn : ∀ cls, c.raises args cls = false) (hp : c.post args (.bool true) args = true) (hg : s₁.gens = #[])
    (k : Kp s₁.heap h') : GoodWG c cl mean args s₁ (.ok (.ret (.bool true))) { s₁ with heap := h', toks := tk } :=
  ⟨.inl ⟨.bool true, .bool true, [], rfl, hn, .bool true, hp, fun _ => ⟨List.nodup_nil, fun a ha => nomatch ha⟩⟩, .of_keep k, rfl, .of_eq hg⟩
theorem post_true (l : OpenLaw) (args : List WData) : l.row.claim.post args (.bool true) args = true := by
  show (WShape.has ([] : WRecords) (.bool true) .bool && WTm.holds ([] : WRecords) (.eq .res (.lit (.bool true))) { args := args, res := some (.bool true), after := args }) = true
  rw [Bool.and_eq_true]
  refine ⟨by first | rfl | decide +kernel | simp [WShape.has], ?_⟩
  unfold WTm.holds
  rw [w_eq (w_res rfl) w_lit]
  first | rfl | decide +kernel | simp
theorem ints_all2 {h : Heap} : ∀ {us : List Value} {ns : List Int}, IntsAre us ns → All2 h us (ns.map vi) := by
  intro us ns hi
  have hl := IntsAre.length hi
  refine All2.of_get (by simpa using hl) fun i v P e1 e2 => ?_
  obtain ⟨n, t, rfl, hn⟩ := IntsAre.at hi i v e1
  rw [List.getElem?_map, hn] at e2
  simp at e2; subst e2
  exact ⟨t, rfl⟩

theorem signs_ok : ∀ i < 8, ∀ k < 4, smalls.getD i 0 ≠ up1 (smalls.getD i 0) ∧ thirds.getD k 0 ≠ smalls.getD i 0 ∧ thirds.getD k 0 ≠ up1 (smalls.getD i 0) ∧ lo1 (smalls.getD i 0) = lo1 (up1 (smalls.getD i 0)) ∧ lo1 (thirds.getD k 0) ≠ lo1 (smalls.getD i 0) ∧
    ∀ c ∈ [smalls.getD i 0, up1 (smalls.getD i 0), thirds.getD k 0], c < 128 := by decide +kernel
theorem all_ok (ns : List Int) : check2 (sx ns) (sy ns) (sz ns) = true ∧ sx ns ≠ sy ns ∧ ∀ c ∈ [sx ns, sy ns, sz ns], c < 128 := by
  have h8 := fmod_range (fst2 ns) (b := 8) (by decide)
  have h4 := fmod_range ((fst2 ns).fdiv 8) (b := 4) (by decide)
  obtain ⟨a1, a2, a3, a4, a5, a6⟩ := signs_ok ((fst2 ns).fmod 8).toNat (by omega) (((fst2 ns).fdiv 8).fmod 4).toNat (by omega)
  exact ⟨check_all a1 a2 a3 a4 a5, a1, a6⟩
end Mine

open PySem PySem.W PyProof.Rows PySem.Calls Mine
set_option maxHeartbeats 8000000 in
theorem PySem.Challenge.cw_mj0341_02_holds : PySem.Challenge.rw_mj0341_02.Holds := by
  w_on; o_law; k_head; (case hw => w_witness2)
  intro w s₀ s₁ mg mb G Y fa o pm cd doc dV kV ho hd hcd hD hmg hg args vals as hpre hlay hrd hwl hlo
  refine Ground.open G ?_
  intro T B D TE TW
  clear Y G hd hcd hD B D TE TW
  wrow_args hpre hlay hrd hwl hlo
  rename_i ns _ _ _ _ _ _ _ l us _ hL _ _ _ hI _ hlen _
  obtain ⟨W, f, hf⟩ := Mine.w2_of T (by kernel_rfl) (by decide +kernel) (by kernel_rfl) (by kernel_rfl) (by kernel_rfl)
  have e : fa = f := by
    have := hf.g
    have h2 : mg (Str.ofString "law") = some (.ref fa) := hmg
    rw [h2] at this
    cases this; rfl
  subst e
  obtain ⟨a1, a2, a3⟩ := Mine.all_ok ns
  refine Mine.c_law2 (A := callerA) W ⟨rfl, by decide⟩ (by decide) hf (by omega) a1 a2 a3 s₁ [.ref l] _ _ Mine.Kp.rf ⟨⟨l, us, rfl, hL, Mine.ints_all2 hI⟩, trivial⟩ fun v h' tk k hv => ?_
  have : v = .bool true := hv
  subst this
  exact Mine.good_true (by intro cls; rfl) (Mine.post_true _ _) hg k
