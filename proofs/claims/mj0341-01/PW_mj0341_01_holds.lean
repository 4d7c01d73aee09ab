import PyProof.Rows.All
import Wide.All
import OpenK.AllK
import Wide.FinOn
import PySem.Challenge.RW_mj0341_01
set_option Elab.async false
set_option maxRecDepth 100000
set_option linter.all false
namespace Mine
open PySem PyProof.Rows

/-! growth of the heap -/
def Kp (h h' : Heap) : Prop := ∀ b o, h.get? b = some o → h'.get? b = some o
theorem Kp.rf {h : Heap} : Kp h h := fun _ _ e => e
theorem Kp.tr {a b c : Heap} (x : Kp a b) (y : Kp b c) : Kp a c := fun p o e => y p o (x p o e)
theorem Kp.push (h : Heap) (o : Obj) : Kp h (h.push o) := fun _ _ e => Heap.get?_push_of_some o e
theorem Kp.none_of {h h' : Heap} (k : Kp h h') : h.get? h'.objs.size = none := by
  cases e : h.get? h'.objs.size with
  | none => rfl
  | some o => exact absurd (Heap.lt_size (k _ _ e)) (Nat.lt_irrefl _)

def isSeq (o : Obj) : Bool := match o.data with | .seq _ _ => true | _ => false
/-- all lists and tuples are kept -/
def Ks (h h' : Heap) : Prop := ∀ b o, h.get? b = some o → isSeq o = true → h'.get? b = some o
theorem Kp.ks {h h' : Heap} (k : Kp h h') : Ks h h' := fun b o e _ => k b o e
theorem Ks.rf {h : Heap} : Ks h h := fun _ _ e _ => e
theorem Ks.tr {a b c : Heap} (x : Ks a b) (y : Ks b c) : Ks a c := fun p o e q => y p o (x p o e q) q

theorem ks_of_sameBut {h h' : Heap} {a : Addr} (hs : Heap.SameBut a h h') (ho : ∀ o, h.get? a = some o → isSeq o = false) : Ks h h' := by
  intro b o e q
  by_cases hb : b = a
  · subst hb; rw [ho o e] at q; cases q
  · exact (hs.2 b hb).trans e

/-! what is known of a value -/
structure VP where
  p : Heap → Value → Prop
  up : ∀ h h' v, Kp h h' → p h v → p h' v

def Sq (P : VP) : Prop := ∀ h h' v, Ks h h' → P.p h v → P.p h' v
def Flat (P : VP) : Prop := ∀ h h' v, P.p h v → P.p h' v
theorem Flat.sq {P : VP} (f : Flat P) : Sq P := fun h h' v _ x => f h h' v x

def vi (i : Int) : VP := ⟨fun _ v => ∃ t, v = .int i t, fun _ _ _ _ x => x⟩
def vs (x : Str) : VP := ⟨fun _ v => ∃ t, v = .str x t, fun _ _ _ _ x => x⟩
def vb (b : Bool) : VP := ⟨fun _ v => v = .bool b, fun _ _ _ _ x => x⟩
def vn : VP := ⟨fun _ v => v = .none, fun _ _ _ _ x => x⟩
def vr (a : Addr) : VP := ⟨fun _ v => v = .ref a, fun _ _ _ _ x => x⟩
def vx (v₀ : Value) : VP := ⟨fun _ v => v = v₀, fun _ _ _ _ x => x⟩

def All2 (h : Heap) : List Value → List VP → Prop
  | [], [] => True
  | v :: vs, P :: Ps => P.p h v ∧ All2 h vs Ps
  | _, _ => False

theorem All2.up {h h' : Heap} (k : Kp h h') : ∀ {vs : List Value} {Ps : List VP}, All2 h vs Ps → All2 h' vs Ps
  | [], [], _ => trivial
  | _ :: _, P :: _, ⟨x, r⟩ => ⟨P.up _ _ _ k x, All2.up k r⟩
theorem All2.sq {h h' : Heap} (k : Ks h h') : ∀ {vs : List Value} {Ps : List VP}, (∀ P ∈ Ps, Sq P) → All2 h vs Ps → All2 h' vs Ps
  | [], [], _, _ => trivial
  | _ :: _, P :: _, s, ⟨x, r⟩ => ⟨s P (.head _) _ _ _ k x, All2.sq k (fun Q hQ => s Q (.tail _ hQ)) r⟩
theorem All2.length {h : Heap} : ∀ {vs : List Value} {Ps : List VP}, All2 h vs Ps → vs.length = Ps.length
  | [], [], _ => rfl
  | _ :: vs, _ :: Ps, ⟨_, r⟩ => by simp [All2.length r]
theorem All2.get {h : Heap} : ∀ {vs : List Value} {Ps : List VP}, All2 h vs Ps → ∀ {i : Nat} {v : Value}, vs[i]? = some v → ∃ P, Ps[i]? = some P ∧ P.p h v
  | [], [], _, i, v, e => by simp at e
  | x :: vs, P :: Ps, ⟨a, r⟩, 0, v, e => ⟨P, rfl, by simp at e; exact e ▸ a⟩
  | x :: vs, P :: Ps, ⟨a, r⟩, i + 1, v, e => by
    obtain ⟨Q, e1, e2⟩ := All2.get r (i := i) (v := v) (by simpa using e)
    exact ⟨Q, by simpa using e1, e2⟩
theorem All2.get' {h : Heap} : ∀ {vs : List Value} {Ps : List VP}, All2 h vs Ps → ∀ {i : Nat} {P : VP}, Ps[i]? = some P → ∃ v, vs[i]? = some v ∧ P.p h v
  | [], [], _, i, v, e => by simp at e
  | x :: vs, P :: Ps, ⟨a, r⟩, 0, v, e => ⟨x, rfl, by simp at e; exact e ▸ a⟩
  | x :: vs, P :: Ps, ⟨a, r⟩, i + 1, v, e => by
    obtain ⟨Q, e1, e2⟩ := All2.get' r (i := i) (P := v) (by simpa using e)
    exact ⟨Q, by simpa using e1, e2⟩
theorem All2.append {h : Heap} : ∀ {vs : List Value} {Ps : List VP} {us : List Value} {Qs : List VP}, All2 h vs Ps → All2 h us Qs → All2 h (vs ++ us) (Ps ++ Qs)
  | [], [], _, _, _, b => b
  | _ :: _, _ :: _, _, _, ⟨x, r⟩, b => ⟨x, All2.append r b⟩
theorem All2.of_get {h : Heap} : ∀ {vs : List Value} {Ps : List VP}, vs.length = Ps.length → (∀ (i : Nat) (v : Value) (P : VP), vs[i]? = some v → Ps[i]? = some P → P.p h v) → All2 h vs Ps
  | [], [], _, _ => trivial
  | x :: vs, P :: Ps, hl, hg => ⟨hg 0 x P rfl rfl, All2.of_get (by simpa using hl) fun i v P e1 e2 => hg (i + 1) v P (by simpa using e1) (by simpa using e2)⟩

theorem isList_ks {h h' : Heap} {a : Addr} {items : Array Value} (k : Ks h h') (x : h.IsList a items) : h'.IsList a items := by
  obtain ⟨o, ho, hc, n, hd⟩ := x
  exact ⟨o, k a o ho (by simp [isSeq, hd]), hc, n, hd⟩
theorem isTup_ks {h h' : Heap} {a : Addr} {items : Array Value} (k : Ks h h') (x : h.IsTuple a items) : h'.IsTuple a items := by
  obtain ⟨o, ho, hc, n, hd⟩ := x
  exact ⟨o, k a o ho (by simp [isSeq, hd]), hc, n, hd⟩

def vl (Ps : List VP) : VP := ⟨fun h v => ∃ (a : Addr) (us : List Value), v = .ref a ∧ h.IsList a us.toArray ∧ All2 h us Ps,
  fun _ _ _ k ⟨a, us, e, l, x⟩ => ⟨a, us, e, isList_ks k.ks l, x.up k⟩⟩
def vt (Ps : List VP) : VP := ⟨fun h v => ∃ (a : Addr) (us : List Value), v = .ref a ∧ h.IsTuple a us.toArray ∧ All2 h us Ps,
  fun _ _ _ k ⟨a, us, e, l, x⟩ => ⟨a, us, e, isTup_ks k.ks l, x.up k⟩⟩

theorem flat_vi (i : Int) : Flat (vi i) := fun _ _ _ x => x
theorem flat_vs (x : Str) : Flat (vs x) := fun _ _ _ x => x
theorem flat_vb (b : Bool) : Flat (vb b) := fun _ _ _ x => x
theorem flat_vn : Flat vn := fun _ _ _ x => x
theorem flat_vr (a : Addr) : Flat (vr a) := fun _ _ _ x => x
theorem flat_vx (v : Value) : Flat (vx v) := fun _ _ _ x => x
theorem sq_vl {Ps : List VP} (hs : ∀ P ∈ Ps, Sq P) : Sq (vl Ps) := fun _ _ _ k ⟨a, us, e, l, x⟩ => ⟨a, us, e, isList_ks k l, x.sq k hs⟩

/-! names -/
def Loc (env : Env) (h : Heap) (x : Str) (v : Value) : Prop :=
  (env.kindOf x = some .local ∧ ∃ m, h.Ns env.locals m ∧ m x = some v) ∨
  (env.kindOf x = some .cell ∧ ∃ c, env.cells.lookup x = some c ∧ h.IsCell c (some v)) ∨
  (env.kindOf x = some .free ∧ (x == ("__classdict__" : Str)) = false ∧ ∃ c, env.cells.lookup x = some c ∧ h.IsCell c (some v))

theorem Loc.up {env : Env} {h h' : Heap} {x : Str} {v : Value} (k : Kp h h') : Loc env h x v → Loc env h' x v
  | .inl ⟨a, m, n, e⟩ => .inl ⟨a, m, n.keeps k, e⟩
  | .inr (.inl ⟨a, c, l, e⟩) => .inr (.inl ⟨a, c, l, e.keeps k⟩)
  | .inr (.inr ⟨a, d, c, l, e⟩) => .inr (.inr ⟨a, d, c, l, e.keeps k⟩)

def Vars (env : Env) (G : List (Str × VP)) (h : Heap) : Prop := ∀ x P, G.lookup x = some P → ∃ v, Loc env h x v ∧ P.p h v
theorem Vars.up {env : Env} {G : List (Str × VP)} {h h' : Heap} (k : Kp h h') (x : Vars env G h) : Vars env G h' := fun y P e =>
  let ⟨v, l, p⟩ := x y P e; ⟨v, l.up k, P.up _ _ _ k p⟩

/-- what the start gives and nothing changes -/
structure Base (mg mb : Str → Option Value) (h : Heap) : Prop where
  g : h.Ns mainGlobals mg
  b : h.Ns builtinsNs mb
  nolimit : h.NoLimit
  bb : ∀ x : Str, x ≠ "__name__" → mb x = bootBuiltins x

structure EnvOk (env : Env) : Prop where
  k : env.scope.kind = .function
  g : env.globals = mainGlobals
  b : env.builtins = builtinsNs

section
variable (prog : Program) (w : World) (base : Heap) (A : Around) (env : Env) (G : List (Str × VP))

abbrev K1 (s : Shared) (Q : Value → Shared → Prop) (R : VP) : Prop := ∀ v h' tk, Kp s.heap h' → R.p h' v → Q v { s with heap := h', toks := tk }

def PE (e : Expr) (R : VP) : Prop := ∀ (s : Shared) (Q : Value → Shared → Prop) (E : Value → Shared → Prop), Kp base s.heap → Vars env G s.heap →
  K1 s Q R → wpAny (model prog w) A (eval e env) Q E s

def PT (e : Expr) (b : Bool) : Prop := ∀ (s : Shared) (Q : Bool → Shared → Prop) (E : Value → Shared → Prop), Kp base s.heap → Vars env G s.heap →
  (∀ h' tk, Kp s.heap h' → Q b { s with heap := h', toks := tk }) → wpAny (model prog w) A (isTrue e env (eval e env)) Q E s

def PA (pos : Pos) (args : List Expr) (Ps : List VP) : Prop := (starEach args env).any (·.1) = false ∧
  ∀ (s : Shared) (Q : List Value → Shared → Prop) (E : Value → Shared → Prop), Kp base s.heap → Vars env G s.heap →
    (∀ us h' tk, Kp s.heap h' → All2 h' us Ps → Q us { s with heap := h', toks := tk }) → wpAny (model prog w) A (spliced (backTo pos (starEach args env))) Q E s

/-- a call of f -/
def Does (f : Value) (Ps : List VP) (R : VP) : Prop := ∀ (s : Shared) (us : List Value) (Q : Value → Shared → Prop) (E : Value → Shared → Prop), Kp base s.heap → All2 s.heap us Ps →
  K1 s Q R → wpAny (model prog w) A (call f us) Q E s

def OpB (op : Operator) (P1 P2 R : VP) : Prop := ∀ (s : Shared) (v1 v2 : Value) (Q : Value → Shared → Prop) (E : Value → Shared → Prop), Kp base s.heap → P1.p s.heap v1 → P2.p s.heap v2 →
  K1 s Q R → wpAny (model prog w) A (binaryOp op v1 v2) Q E s
def OpI (op : Operator) (P1 P2 R : VP) : Prop := ∀ (s : Shared) (v1 v2 : Value) (Q : Value → Shared → Prop) (E : Value → Shared → Prop), Kp base s.heap → P1.p s.heap v1 → P2.p s.heap v2 →
  K1 s Q R → wpAny (model prog w) A (inplaceOp op v1 v2) Q E s
def OpC (op : CmpOp) (P1 P2 : VP) (b : Bool) : Prop := ∀ (s : Shared) (v1 v2 : Value) (Q : Value → Shared → Prop) (E : Value → Shared → Prop), Kp base s.heap → P1.p s.heap v1 → P2.p s.heap v2 →
  K1 s Q (vb b) → wpAny (model prog w) A (compareOp op v1 v2) Q E s
def Tr (P : VP) (b : Bool) : Prop := ∀ (s : Shared) (v : Value) (Q : Bool → Shared → Prop) (E : Value → Shared → Prop), Kp base s.heap → P.p s.heap v →
  (∀ h' tk, Kp s.heap h' → Q b { s with heap := h', toks := tk }) → wpAny (model prog w) A (truthy v) Q E s
def Gi (P1 P2 R : VP) : Prop := ∀ (s : Shared) (v1 v2 : Value) (Q : Value → Shared → Prop) (E : Value → Shared → Prop), Kp base s.heap → P1.p s.heap v1 → P2.p s.heap v2 →
  K1 s Q R → wpAny (model prog w) A (getItem v1 v2) Q E s
end

section
variable {prog : Program} {w : World} {base : Heap} {A : Around} {env : Env} {G : List (Str × VP)}

theorem PE.weaken {e : Expr} {R R' : VP} (x : PE prog w base A env G e R) (h : ∀ hp v, R.p hp v → R'.p hp v) : PE prog w base A env G e R' :=
  fun s Q E hb hv k => x s Q E hb hv fun v h' tk kk r => k v h' tk kk (h _ _ r)

theorem PE.cint {i : Int} {k : Nat} {pos : Pos} : PE prog w base A env G (.Constant (.int i) k pos) (vi i) := fun _ _ _ _ _ k => wpAny_Constant_int (k _ _ _ Kp.rf ⟨_, rfl⟩)
theorem PE.cstr {x : Str} {k : Nat} {pos : Pos} : PE prog w base A env G (.Constant (.str x) k pos) (vs x) := fun _ _ _ _ _ k => Calls.Constant_str (k _ _ _ Kp.rf ⟨_, rfl⟩)
theorem PE.cnone {k : Nat} {pos : Pos} : PE prog w base A env G (.Constant .none k pos) vn := fun s _ _ _ _ k => Constant_none (k .none s.heap s.toks Kp.rf rfl)
theorem PE.cbool {b : Bool} {k : Nat} {pos : Pos} : PE prog w base A env G (.Constant (.bool b) k pos) (vb b) := fun s _ _ _ _ k => Constant_bool (k (.bool b) s.heap s.toks Kp.rf rfl)

theorem PE.name {x : Str} {pos : Pos} {P : VP} (ok : EnvOk env) (hl : G.lookup x = some P) (hd : (x == ("__debug__" : Str)) = false) : PE prog w base A env G (.Name x pos) P := by
  intro s Q E hb hv k
  obtain ⟨v, l, p⟩ := hv x P hl
  refine wpAny_Name ?_ hd
  rcases l with ⟨hk, m, n, e⟩ | ⟨hk, c, l, e⟩ | ⟨hk, hc, c, l, e⟩
  · exact wpAny_loadName_local ok.k hk n e (k v s.heap s.toks Kp.rf p)
  · exact wpAny_loadName_cell ok.k hk l e (k v s.heap s.toks Kp.rf p)
  · exact wpAny_loadName_free ok.k hk l e (k v s.heap s.toks Kp.rf p) hc

theorem PE.glob {mg mb : Str → Option Value} {x : Str} {pos : Pos} {v : Value} (ok : EnvOk env) (B : Base mg mb base) (hx : env.kindOf x = some .globalImplicit) (hv : mg x = some v)
    (hd : (x == ("__debug__" : Str)) = false) : PE prog w base A env G (.Name x pos) (vx v) := by
  intro s Q E hb hv' k
  refine Calls.Name_function_global ok.k hx (Calls.loadGlobal_global (mg := mg) (v := v) ?_ hv (k v s.heap s.toks Kp.rf rfl)) hd
  rw [ok.g]; exact B.g.keeps hb
theorem PE.built {mg mb : Str → Option Value} {x : Str} {pos : Pos} {v : Value} (ok : EnvOk env) (B : Base mg mb base) (hx : env.kindOf x = some .globalImplicit) (hg : mg x = none) (hv : bootBuiltins x = some v)
    (hn : x ≠ "__name__") (hd : (x == ("__debug__" : Str)) = false) : PE prog w base A env G (.Name x pos) (vx v) := by
  intro s Q E hb hv' k
  refine Calls.Name_function_global ok.k hx (Calls.loadGlobal_builtin (mg := mg) (mb := mb) (v := v) ?_ hg ?_ ((B.bb x hn).trans hv) (k v s.heap s.toks Kp.rf rfl)) hd
  · rw [ok.g]; exact B.g.keeps hb
  · rw [ok.b]; exact B.b.keeps hb

theorem PE.bin {l r : Expr} {op : Operator} {pos : Pos} {P1 P2 R : VP} (hl : PE prog w base A env G l P1) (hr : PE prog w base A env G r P2) (ho : OpB prog w base A op P1 P2 R) :
    PE prog w base A env G (.BinOp l op r pos) R := by
  intro s Q E hb hv k
  refine wpAny_BinOp (hl s _ E hb hv fun v1 h1 t1 k1 p1 => ?_)
  refine hr _ _ E (hb.tr k1) (hv.up k1) fun v2 h2 t2 k2 p2 => ?_
  exact ho _ v1 v2 _ _ (hb.tr (k1.tr k2)) (P1.up _ _ _ k2 p1) p2 fun v h' tk kk r => k v h' tk (k1.tr (k2.tr kk)) r

theorem PE.cmp {l r : Expr} {op : CmpOp} {pos : Pos} {P1 P2 : VP} {b : Bool} (hl : PE prog w base A env G l P1) (hr : PE prog w base A env G r P2) (ho : OpC prog w base A op P1 P2 b)
    (hm : behindInMarks op r = false) : PE prog w base A env G (.Compare l [op] [r] pos) (vb b) := by
  intro s Q E hb hv k
  refine wpAny_Compare1 (hl s _ E hb hv fun v1 h1 t1 k1 p1 => ?_) hm
  refine hr _ _ E (hb.tr k1) (hv.up k1) fun v2 h2 t2 k2 p2 => ?_
  exact ho _ v1 v2 _ _ (hb.tr (k1.tr k2)) (P1.up _ _ _ k2 p1) p2 fun v h' tk kk r => k v h' tk (k1.tr (k2.tr kk)) r

theorem PT.cmp {l r : Expr} {op : CmpOp} {pos : Pos} {P1 P2 : VP} {b : Bool} (hl : PE prog w base A env G l P1) (hr : PE prog w base A env G r P2) (ho : OpC prog w base A op P1 P2 b)
    (hm : behindInMarks op r = false) : PT prog w base A env G (.Compare l [op] [r] pos) b := by
  intro s Q E hb hv k
  refine wpAny_isTrue_Compare1 (hl s _ E hb hv fun v1 h1 t1 k1 p1 => ?_) hm
  refine hr _ _ E (hb.tr k1) (hv.up k1) fun v2 h2 t2 k2 p2 => ?_
  refine ho _ v1 v2 _ _ (hb.tr (k1.tr k2)) (P1.up _ _ _ k2 p1) p2 fun v h' tk kk r => ?_
  have e : v = .bool b := r
  subst e
  exact wpAny_truthy_bool (k h' tk (k1.tr (k2.tr kk)))

theorem PT.and_nil {pos : Pos} : PT prog w base A env G (.BoolOp .And [] pos) true := fun s _ _ _ _ k => isTrue_and_nil (k s.heap s.toks Kp.rf)
theorem PT.or_nil {pos : Pos} : PT prog w base A env G (.BoolOp .Or [] pos) false := fun s _ _ _ _ k => isTrue_or_nil (k s.heap s.toks Kp.rf)
theorem PT.and {x : Expr} {rest : List Expr} {pos : Pos} {b c : Bool} (hx : PT prog w base A env G x b) (hr : b = true → PT prog w base A env G (.BoolOp .And rest pos) c) :
    PT prog w base A env G (.BoolOp .And (x :: rest) pos) (b && c) := by
  intro s Q E hb hv k
  refine isTrue_and (hx s _ E hb hv fun h1 t1 k1 => ?_)
  cases b with
  | true => exact hr rfl _ _ E (hb.tr k1) (hv.up k1) fun h2 t2 k2 => k h2 t2 (k1.tr k2)
  | false => exact k h1 t1 k1
theorem PT.or {x : Expr} {rest : List Expr} {pos : Pos} {b c : Bool} (hx : PT prog w base A env G x b) (hr : b = false → PT prog w base A env G (.BoolOp .Or rest pos) c) :
    PT prog w base A env G (.BoolOp .Or (x :: rest) pos) (b || c) := by
  intro s Q E hb hv k
  refine isTrue_or (hx s _ E hb hv fun h1 t1 k1 => ?_)
  cases b with
  | false => exact hr rfl _ _ E (hb.tr k1) (hv.up k1) fun h2 t2 k2 => k h2 t2 (k1.tr k2)
  | true => exact k h1 t1 k1
theorem PT.not {x : Expr} {pos : Pos} {b : Bool} (hx : PT prog w base A env G x b) : PT prog w base A env G (.UnaryOp .Not x pos) (!b) := by
  intro s Q E hb hv k
  exact isTrue_not (hx s _ E hb hv fun h1 t1 k1 => k h1 t1 k1)
theorem PT.plain {e : Expr} {P : VP} {b : Bool} (hx : PE prog w base A env G e P) (ht : Tr prog w base A P b)
    (he : isTrue e env (eval e env) = (do let v ← eval e env; standAt e.pos; holding [v] (truthy v))) : PT prog w base A env G e b := by
  intro s Q E hb hv k
  refine isTrue_plain (hx s _ E hb hv fun v h1 t1 k1 p1 => ?_) he
  exact ht _ v _ _ (hb.tr k1) p1 fun h' tk kk => k h' tk (k1.tr kk)

theorem PE.ite {test body orelse : Expr} {pos : Pos} {b : Bool} {R : VP} (ht : PT prog w base A env G test b) (h1 : b = true → PE prog w base A env G body R) (h0 : b = false → PE prog w base A env G orelse R) :
    PE prog w base A env G (.IfExp test body orelse pos) R := by
  intro s Q E hb hv k
  refine IfExp_ (ht s _ E hb hv fun h' tk k1 => ?_)
  cases b with
  | true => exact h1 rfl _ _ E (hb.tr k1) (hv.up k1) fun v h2 t2 k2 r => k v h2 t2 (k1.tr k2) r
  | false => exact h0 rfl _ _ E (hb.tr k1) (hv.up k1) fun v h2 t2 k2 r => k v h2 t2 (k1.tr k2) r

theorem PE.orElse {e₁ e₂ : Expr} {pos : Pos} {P : VP} {b : Bool} {R : VP} (h₁ : PE prog w base A env G e₁ P) (ht : Tr prog w base A P b) (hP : b = true → ∀ h v, P.p h v → R.p h v)
    (h₂ : b = false → PE prog w base A env G e₂ R) : PE prog w base A env G (.BoolOp .Or [e₁, e₂] pos) R := by
  intro s Q E hb hv k
  refine BoolOp_or (h₁ s _ E hb hv fun v h1 t1 k1 p1 => ht _ v _ _ (hb.tr k1) p1 fun h2 t2 k2 => ?_)
  cases b with
  | true => exact k v h2 t2 (k1.tr k2) (hP rfl _ _ (P.up _ _ _ k2 p1))
  | false => exact BoolOp_one (h₂ rfl _ _ E (hb.tr (k1.tr k2)) (hv.up (k1.tr k2)) fun v h3 t3 k3 r => k v h3 t3 (k1.tr (k2.tr k3)) r)

theorem PE.neg {pos pos' : Pos} {k : Nat} {i : Int} : PE prog w base A env G (.UnaryOp .USub (.Constant (.int i) k pos') pos) (vi (-i)) := by
  intro s Q E hb hv k
  refine UnaryOp_ (wpAny_Constant_int ?_)
  exact neg_int (k _ _ _ Kp.rf ⟨_, rfl⟩)

theorem PA.nil {pos : Pos} : PA prog w base A env G pos [] [] := ⟨rfl, fun s _ _ _ _ k => Calls.spliced_nil (k [] s.heap s.toks Kp.rf trivial)⟩
theorem PA.cons {pos : Pos} {e : Expr} {rest : List Expr} {P : VP} {Ps : List VP} (he : PE prog w base A env G e P) (hr : PA prog w base A env G pos rest Ps)
    (hs : starEach (e :: rest) env = (false, eval e env) :: starEach rest env) : PA prog w base A env G pos (e :: rest) (P :: Ps) := by
  refine ⟨by rw [hs]; simpa using hr.1, fun s Q E hb hv k => ?_⟩
  rw [hs]
  show wpAny _ _ (spliced ((false, eval e env) :: backTo pos (starEach rest env))) _ _ s
  refine Calls.spliced_cons (he s _ E hb hv fun v h1 t1 k1 p1 => ?_)
  exact hr.2 _ _ E (hb.tr k1) (hv.up k1) fun us h2 t2 k2 x => k (v :: us) h2 t2 (k1.tr k2) ⟨P.up _ _ _ k2 p1, x⟩

theorem backTo_any (pos : Pos) : ∀ l : List (Bool × Sem Value), (backTo pos l).any (·.1) = l.any (·.1)
  | [] => rfl
  | (b, t) :: r => by
    have ih := backTo_any pos r
    simp only [backTo, List.map_cons, List.any_cons] at ih ⊢
    rw [ih]

theorem PE.list {elts : List Expr} {pos : Pos} {Ps : List VP} (h : PA prog w base A env G pos elts Ps) (hz : Ps.length ≤ sizeLine) : PE prog w base A env G (.List elts pos) (vl Ps) := by
  intro s Q E hb hv k
  refine List_ (h.2 s _ E hb hv fun us h1 t1 k1 x => ?_)
  refine wpAny_newObj_type (k _ _ _ (k1.tr (Kp.push _ _)) ⟨_, us, rfl, ⟨_, Heap.get?_push_size _ rfl, rfl, _, rfl⟩, x.up (Kp.push _ _)⟩) ?_
  show us.toArray.size ≤ sizeLine
  rw [List.size_toArray, x.length]; exact hz
theorem PE.tup {elts : List Expr} {c : Nat} {pos : Pos} {Ps : List VP} (h : PA prog w base A env G pos elts Ps) (hz : Ps.length ≤ sizeLine) : PE prog w base A env G (.Tuple elts c pos) (vt Ps) := by
  intro s Q E hb hv k
  refine Tuple_ (h.2 s _ E hb hv fun us h1 t1 k1 x => ?_)
  refine wpAny_newObj_type (k _ _ _ (k1.tr (Kp.push _ _)) ⟨_, us, rfl, ⟨_, Heap.get?_push_size _ rfl, rfl, _, rfl⟩, x.up (Kp.push _ _)⟩) ?_
  show us.toArray.size ≤ sizeLine
  rw [List.size_toArray, x.length]; exact hz

/-- a call by a name: a builtin, a type or a def of the text -/
theorem PE.callB {x : Str} {p pos : Pos} {e : Expr} {rest : List Expr} {id : String} {Ps : List VP} {R : VP} (hf : PE prog w base A env G (.Name x p) (vx (.builtin id)))
    (ha : PA prog w base A env G pos (e :: rest) Ps) (hs : starEach (e :: rest) env = (false, eval e env) :: starEach rest env) (hd : Does prog w base A (.builtin id) Ps R) :
    PE prog w base A env G (.Call (.Name x p) (e :: rest) [] pos) R := by
  intro s Q E hb hv k
  refine Call_Name rfl (hf s _ E hb hv fun v h1 t1 k1 r => ?_)
  have e1 : v = .builtin id := r
  subst e1
  refine Calls.callWith_builtin (by rw [backTo_any]; exact ha.1) ?_
  have hA := ha.2 { s with heap := h1, toks := t1 } (fun us s₁ => wpAny (model prog w) A (call (.builtin id) us) Q E s₁) E (hb.tr k1) (hv.up k1)
    fun us h2 t2 k2 x => hd _ us _ _ (hb.tr (k1.tr k2)) x fun v h' tk kk r => k v h' tk (k1.tr (k2.tr kk)) r
  rw [hs] at hA ⊢
  exact Calls.evalArgs_plain hA
theorem PE.callT {x : Str} {p pos : Pos} {e : Expr} {rest : List Expr} {T : String} {Ps : List VP} {R : VP} (hf : PE prog w base A env G (.Name x p) (vx (.type T)))
    (ha : PA prog w base A env G pos (e :: rest) Ps) (hs : starEach (e :: rest) env = (false, eval e env) :: starEach rest env) (hd : Does prog w base A (.type T) Ps R) :
    PE prog w base A env G (.Call (.Name x p) (e :: rest) [] pos) R := by
  intro s Q E hb hv k
  refine Call_Name rfl (hf s _ E hb hv fun v h1 t1 k1 r => ?_)
  have e1 : v = .type T := r
  subst e1
  refine PyProof.Rows.callWith_type (by rw [backTo_any]; exact ha.1) ?_
  have hA := ha.2 { s with heap := h1, toks := t1 } (fun us s₁ => wpAny (model prog w) A (call (.type T) us) Q E s₁) E (hb.tr k1) (hv.up k1)
    fun us h2 t2 k2 x => hd _ us _ _ (hb.tr (k1.tr k2)) x fun v h' tk kk r => k v h' tk (k1.tr (k2.tr kk)) r
  rw [hs] at hA ⊢
  exact Calls.evalArgs_plain hA
theorem PE.callF {x : Str} {p pos : Pos} {e : Expr} {rest : List Expr} {f : Addr} {o : Obj} {fd : FuncData} {Ps : List VP} {R : VP} (ho : base.get? f = some o) (hdat : o.data = .func fd)
    (hf : PE prog w base A env G (.Name x p) (vx (.ref f)))
    (ha : PA prog w base A env G pos (e :: rest) Ps) (hs : starEach (e :: rest) env = (false, eval e env) :: starEach rest env) (hd : Does prog w base A (.ref f) Ps R) :
    PE prog w base A env G (.Call (.Name x p) (e :: rest) [] pos) R := by
  intro s Q E hb hv k
  refine Call_Name rfl (hf s _ E hb hv fun v h1 t1 k1 r => ?_)
  have e1 : v = .ref f := r
  subst e1
  refine Calls.callWith_function (o := o) (fd := fd) ?_
  have hA := ha.2 { s with heap := h1, toks := t1 } (fun us s₁ => (s₁.heap.get? f = some o ∧ o.data = .func fd) ∧ wpAny (model prog w) A (call (.ref f) us) Q E s₁) E (hb.tr k1) (hv.up k1)
    fun us h2 t2 k2 x => ⟨⟨k2 _ _ (k1 _ _ (hb _ _ ho)), hdat⟩, hd _ us _ _ (hb.tr (k1.tr k2)) x fun v h' tk kk r => k v h' tk (k1.tr (k2.tr kk)) r⟩
  rw [hs] at hA ⊢
  exact Calls.evalArgs_plain hA
end
end Mine
namespace Mine
open PySem PyProof.Rows

/-- a text by the list of its signs -/
def S (l : List Nat) : Str := ⟨l.toArray⟩
theorem S_cps (l : List Nat) : (S l).cps = l.toArray := rfl
theorem S_len (l : List Nat) : (S l).length = l.length := by simp [S, Str.length]
theorem S_inj {a b : List Nat} (h : S a = S b) : a = b := by simpa [S] using h
theorem S_app (a b : List Nat) : S a ++ S b = S (a ++ b) := by show Str.append (S a) (S b) = _; simp [Str.append, S]
theorem S_beq (a b : List Nat) : (S a == S b) = (a == b) := by
  rw [Bool.eq_iff_iff, beq_iff_eq, beq_iff_eq]; exact ⟨S_inj, fun h => by rw [h]⟩
theorem S_bne (a b : List Nat) : (S a != S b) = (a != b) := by simp only [bne, S_beq]

section
variable {prog : Program} {w : World} {base : Heap} {A : Around} {env : Env} {G : List (Str × VP)}

theorem ob_add {a b : Int} : OpB prog w base A .Add (vi a) (vi b) (vi (a + b)) := by
  rintro s _ _ Q E hb ⟨t, rfl⟩ ⟨u, rfl⟩ k; exact PyProof.Rows.add_int (k _ _ _ Kp.rf ⟨_, rfl⟩)
theorem ob_sub {a b : Int} : OpB prog w base A .Sub (vi a) (vi b) (vi (a - b)) := by
  rintro s _ _ Q E hb ⟨t, rfl⟩ ⟨u, rfl⟩ k; exact PyProof.Rows.sub_int (k _ _ _ Kp.rf ⟨_, rfl⟩)
theorem ob_mul {a b : Int} (hm : IntMulOk a b) : OpB prog w base A .Mult (vi a) (vi b) (vi (a * b)) := by
  rintro s _ _ Q E hb ⟨t, rfl⟩ ⟨u, rfl⟩ k; exact PyProof.Rows.mul_int (k _ _ _ Kp.rf ⟨_, rfl⟩) hm
theorem ob_mod {a b : Int} (h : b ≠ 0) : OpB prog w base A .Mod (vi a) (vi b) (vi (a.fmod b)) := by
  rintro s _ _ Q E hb ⟨t, rfl⟩ ⟨u, rfl⟩ k; exact PyProof.Rows.mod_int h (k _ _ _ Kp.rf ⟨_, rfl⟩)
theorem ob_div {a b : Int} (h : b ≠ 0) (hp : Builtin.divisionGoesByPylong a b = false) : OpB prog w base A .FloorDiv (vi a) (vi b) (vi (a.fdiv b)) := by
  rintro s _ _ Q E hb ⟨t, rfl⟩ ⟨u, rfl⟩ k; exact PyProof.Rows.floordiv_int h (k _ _ _ Kp.rf ⟨_, rfl⟩) (.inl hp)
theorem ob_adds {a b : List Nat} (hz : a.length + b.length ≤ sizeLine) : OpB prog w base A .Add (vs (S a)) (vs (S b)) (vs (S (a ++ b))) := by
  rintro s _ _ Q E hb ⟨t, rfl⟩ ⟨u, rfl⟩ k
  refine PyProof.Rows.add_str (fun t' tk => ?_) (by rw [S_len, S_len]; exact hz)
  rw [S_app]; exact k _ s.heap tk Kp.rf ⟨_, rfl⟩
theorem oi_add {a b : Int} : OpI prog w base A .Add (vi a) (vi b) (vi (a + b)) := by
  rintro s _ _ Q E hb ⟨t, rfl⟩ ⟨u, rfl⟩ k; exact PyProof.Rows.iadd_int (k _ _ _ Kp.rf ⟨_, rfl⟩)
theorem oi_sub {a b : Int} : OpI prog w base A .Sub (vi a) (vi b) (vi (a - b)) := by
  rintro s _ _ Q E hb ⟨t, rfl⟩ ⟨u, rfl⟩ k; exact PyProof.Rows.isub_int (k _ _ _ Kp.rf ⟨_, rfl⟩)

theorem oc_eq {a b : Int} : OpC prog w base A .Eq (vi a) (vi b) (a == b) := by
  rintro s _ _ Q E hb ⟨t, rfl⟩ ⟨u, rfl⟩ k; exact PyProof.Rows.eq_int (k _ s.heap s.toks Kp.rf rfl)
theorem oc_ne {a b : Int} : OpC prog w base A .NotEq (vi a) (vi b) (a != b) := by
  rintro s _ _ Q E hb ⟨t, rfl⟩ ⟨u, rfl⟩ k; exact PyProof.Rows.ne_int (k _ s.heap s.toks Kp.rf rfl)
theorem oc_lt {a b : Int} : OpC prog w base A .Lt (vi a) (vi b) (decide (a < b)) := by
  rintro s _ _ Q E hb ⟨t, rfl⟩ ⟨u, rfl⟩ k; exact PyProof.Rows.lt_int (k _ s.heap s.toks Kp.rf rfl)
theorem oc_gt {a b : Int} : OpC prog w base A .Gt (vi a) (vi b) (decide (b < a)) := by
  rintro s _ _ Q E hb ⟨t, rfl⟩ ⟨u, rfl⟩ k; exact PyProof.Rows.gt_int (k _ s.heap s.toks Kp.rf rfl)
theorem oc_le {a b : Int} : OpC prog w base A .LtE (vi a) (vi b) (decide (a ≤ b)) := by
  rintro s _ _ Q E hb ⟨t, rfl⟩ ⟨u, rfl⟩ k; exact PyProof.Rows.le_int (k _ s.heap s.toks Kp.rf rfl)
theorem oc_ge {a b : Int} : OpC prog w base A .GtE (vi a) (vi b) (decide (b ≤ a)) := by
  rintro s _ _ Q E hb ⟨t, rfl⟩ ⟨u, rfl⟩ k; exact PyProof.Rows.ge_int (k _ s.heap s.toks Kp.rf rfl)
theorem oc_eqs {a b : List Nat} : OpC prog w base A .Eq (vs (S a)) (vs (S b)) (a == b) := by
  rintro s _ _ Q E hb ⟨t, rfl⟩ ⟨u, rfl⟩ k; exact PyProof.Rows.eq_str (by rw [S_beq]; exact k _ s.heap s.toks Kp.rf rfl)
theorem oc_nes {a b : List Nat} : OpC prog w base A .NotEq (vs (S a)) (vs (S b)) (a != b) := by
  rintro s _ _ Q E hb ⟨t, rfl⟩ ⟨u, rfl⟩ k; exact PyProof.Rows.ne_str (by rw [S_bne]; exact k _ s.heap s.toks Kp.rf rfl)
theorem oc_eqb {a b : Bool} : OpC prog w base A .Eq (vb a) (vb b) (a == b) := by
  rintro s _ _ Q E hb rfl rfl k; exact PyProof.Rows.eq_bool (k _ s.heap s.toks Kp.rf rfl)

theorem tr_b {b : Bool} : Tr prog w base A (vb b) b := by
  rintro s _ Q E hb rfl k; exact wpAny_truthy_bool (k s.heap s.toks Kp.rf)
theorem tr_i {a : Int} : Tr prog w base A (vi a) (a != 0) := by
  rintro s _ Q E hb ⟨t, rfl⟩ k; exact PyProof.Rows.truthy_int (k s.heap s.toks Kp.rf)
theorem tr_s {l : List Nat} (hz : l.length < 2 ^ 62) : Tr prog w base A (vs (S l)) (!l.isEmpty) := by
  rintro s _ Q E hb ⟨t, rfl⟩ k
  refine PySem.P.truthy_str (x := S l) (t := t) (by rw [S_len]; omega) ?_
  have e : (((S l).length : Int) != 0) = !l.isEmpty := by
    rw [S_len]
    cases l with
    | nil => rfl
    | cons a r =>
      have : ((((a :: r).length : Nat) : Int) != 0) = true := by rw [bne_iff_ne]; simp only [List.length_cons]; omega
      rw [this]; rfl
  rw [e]; exact k s.heap _ Kp.rf

/-- len -/
theorem do_len_s {l : List Nat} (hz : l.length < 2 ^ 62) : Does prog w base A (.builtin "len") [vs (S l)] (vi l.length) := by
  intro s us Q E hb x k
  match us, x with
  | [_], ⟨⟨t, rfl⟩, _⟩ =>
    refine PyProof.Rows.len_str (by rw [S_len]; omega) ?_
    rw [S_len]
    exact k _ s.heap _ Kp.rf ⟨_, rfl⟩

/-! slices of texts -/
def clipN (n : Nat) (v : Option Int) (d : Nat) : Nat := match v with | none => d | some i => (max 0 (min (if i < 0 then i + n else i) n)).toNat
def cut (l : List Nat) (lo hi : Option Int) : List Nat := (l.drop (clipN l.length lo 0)).take (clipN l.length hi l.length - clipN l.length lo 0)
theorem clipN_le {n : Nat} {v : Option Int} {d : Nat} (hd : d ≤ n) : clipN n v d ≤ n := by
  unfold clipN; split
  · exact hd
  · omega
theorem indices_eq (n : Nat) (lo hi : Option Int) : Builtin.Str.strSliceIndices lo hi 1 n = sliceRange (clipN n lo 0) (clipN n hi n) 1 := by
  unfold Builtin.Str.strSliceIndices clipN
  simp only [show (1 : Int) > 0 by decide, if_true]
  congr 1
  · cases lo with
    | none => rfl
    | some i => dsimp only; omega
  · cases hi with
    | none => rfl
    | some i => dsimp only; omega
theorem picked_eq (l : List Nat) (lo hi : Option Int) : (Builtin.Str.strSliceIndices lo hi 1 l.length).filterMap (l.toArray[·]?) = cut l lo hi := by
  rw [indices_eq, sliceRange_one, pick_run]; rfl

theorem cut_len_le (l : List Nat) (lo hi : Option Int) : (cut l lo hi).length ≤ l.length := by
  unfold cut; simp; omega

/-- a part of a slice -/
def PO (prog : Program) (w : World) (base : Heap) (A : Around) (env : Env) (G : List (Str × VP)) (p : Option Expr) (o : Option Int) : Prop :=
  ∀ (s : Shared) (Q : Value → Shared → Prop) (E : Value → Shared → Prop), Kp base s.heap → Vars env G s.heap →
    (∀ v h' tk, Kp s.heap h' → (match o with | none => v = .none | some i => ∃ t, v = .int i t) → Q v { s with heap := h', toks := tk }) → wpAny (model prog w) A (evalPart p env) Q E s
theorem PO.none : PO prog w base A env G Option.none Option.none := fun s Q E _ _ k => by
  rw [evalPart_none]; exact wpAny_pure (k .none s.heap s.toks Kp.rf rfl)
theorem PO.some {e : Expr} {i : Int} (h : PE prog w base A env G e (vi i)) : PO prog w base A env G (Option.some e) (Option.some i) := fun s Q E hb hv k => h s Q E hb hv fun v h' tk kk r => k v h' tk kk r
theorem PO.somen {e : Expr} (h : PE prog w base A env G e vn) : PO prog w base A env G (Option.some e) Option.none := fun s Q E hb hv k => h s Q E hb hv fun v h' tk kk r => k v h' tk kk r

theorem part_of {o : Option Int} {v : Value} (h : match o with | none => v = .none | some i => ∃ t, v = .int i t) : ∃ q : Option (Int × Tok), v = partValue q ∧ q.map (·.1) = o := by
  cases o with
  | none => exact ⟨none, h, rfl⟩
  | some i => obtain ⟨t, rfl⟩ := h; exact ⟨some (i, t), rfl, rfl⟩

theorem PE.sl {value : Expr} {lower upper : Option Expr} {p pos : Pos} {l : List Nat} {lo hi : Option Int} (hz : l.length ≤ sizeLine) (hv : PE prog w base A env G value (vs (S l)))
    (hlo : PO prog w base A env G lower lo) (hhi : PO prog w base A env G upper hi) (ht : ∀ o r, letTemporaryGo value o r = pure ()) :
    PE prog w base A env G (.Subscript value (.Slice lower upper none p) pos) (vs (S (cut l lo hi))) := by
  intro s Q E hb hV k
  refine wpAny_Subscript_str_slice (hv s _ E hb hV fun v h1 t1 k1 p1 => ?_) ht
  obtain ⟨t, rfl⟩ := p1
  refine hlo _ _ E (hb.tr k1) (hV.up k1) fun vl h2 t2 k2 p2 => ?_
  refine hhi _ _ E (hb.tr (k1.tr k2)) (hV.up (k1.tr k2)) fun vu h3 t3 k3 p3 => ?_
  obtain ⟨ql, rfl, e1⟩ := part_of p2
  obtain ⟨qu, rfl, e2⟩ := part_of p3
  refine ⟨S l, t, ql, qu, rfl, rfl, rfl, ?_⟩
  have kk : Kp s.heap (h3.push { cls := .type "slice", data := .fields #[partValue ql, partValue qu, .none] }) := k1.tr (k2.tr (k3.tr (Kp.push _ _)))
  have ep : (slicePicked (S l) ql qu none).filterMap ((S l).cps[·]?) = cut l lo hi := by
    unfold slicePicked
    rw [e1, e2, S_len, S_cps]
    exact picked_eq l lo hi
  unfold sliceMade
  split
  · rename_i hc
    have hlen : (slicePicked (S l) ql qu none).length = l.length := by
      have := (Bool.and_eq_true_iff.mp hc).2
      rw [S_len] at this; simpa using this
    have e : cut l lo hi = l := by
      unfold slicePicked at hlen
      rw [e1, e2, S_len] at hlen
      have h1 : (Builtin.Str.strSliceIndices lo hi 1 l.length).length = l.length := hlen
      rw [indices_eq, sliceRange_one] at h1
      simp only [List.length_map, List.length_range] at h1
      have ha := clipN_le (n := l.length) (v := lo) (Nat.zero_le _)
      have hb' := clipN_le (n := l.length) (v := hi) (Nat.le_refl _)
      unfold cut
      rw [h1]
      have : clipN l.length lo 0 = 0 ∨ l.length = 0 := by omega
      rcases this with h | h
      · rw [h]; simp
      · have : l = [] := List.eq_nil_of_length_eq_zero h
        subst this; simp
    exact k _ _ _ kk ⟨t, by rw [e]⟩
  · refine ⟨?_, ?_⟩
    · rw [ep]
      have := cut_len_le l lo hi
      show (cut l lo hi).toArray.size ≤ sizeLine
      simp; omega
    · rw [ep]; exact k _ _ _ kk ⟨_, rfl⟩

/-! items -/
theorem PE.item {value slice : Expr} {pos : Pos} {P1 P2 R : VP} (hv : PE prog w base A env G value P1) (hi : PE prog w base A env G slice P2)
    (ho : ∀ (s : Shared) (v1 v2 : Value) (Q : Value → Shared → Prop) (E : Value → Shared → Prop), Kp base s.heap → P1.p s.heap v1 → P2.p s.heap v2 → K1 s Q R →
      ∃ (T id : String), s.TypeIs v1 T ∧ typeLookup (.type T) "__getitem__" = pure (some (.builtin id)) ∧ wpAny (model prog w) A (getItem v1 v2) Q E s)
    (hs : ∀ o i, subscripted slice false o i = operate [o, i] (getItem o i)) : PE prog w base A env G (.Subscript value slice pos) R := by
  intro s Q E hb hV k
  refine Subscript_ (hv s _ E hb hV fun v1 h1 t1 k1 p1 => ?_)
  refine hi _ _ E (hb.tr k1) (hV.up k1) fun v2 h2 t2 k2 p2 => ?_
  obtain ⟨T, id, a, b, c⟩ := ho { s with heap := h2, toks := t2 } v1 v2 Q E (hb.tr (k1.tr k2)) (P1.up _ _ _ k2 p1) p2 fun v h' tk kk r => k v h' tk (k1.tr (k2.tr kk)) r
  exact tail_any a b c (hs v1 v2)

theorem PE.item_s {value slice : Expr} {pos : Pos} {l : List Nat} {i : Int} {c : Nat} (hv : PE prog w base A env G value (vs (S l))) (hi : PE prog w base A env G slice (vi i))
    (hr : -(2 ^ 63 : Int) ≤ i ∧ i < 2 ^ 63) (hc : (seqIndex? i l.length).bind (l[·]?) = some c)
    (hs : ∀ o i, subscripted slice false o i = operate [o, i] (getItem o i)) : PE prog w base A env G (.Subscript value slice pos) (vs (S [c])) := by
  refine PE.item hv hi ?_ hs
  rintro s _ _ Q E hb ⟨t, rfl⟩ ⟨u, rfl⟩ k
  refine ⟨"str", _, typeIs_str s _ t, F.slot_str_getitem.lookup, PyProof.Rows.getItem_str (c := c) ?_ ?_ (k _ _ _ Kp.rf ⟨_, rfl⟩)⟩
  · have h1 : decide (i < -(2 ^ 63 : Int)) = false := decide_eq_false (by omega)
    have h2 : decide (i ≥ (2 ^ 63 : Int)) = false := decide_eq_false (by omega)
    rw [h1, h2]; rfl
  · rw [S_len, S_cps]
    have : (fun x : Nat => l.toArray[x]?) = (fun x : Nat => l[x]?) := by funext x; simp
    rw [this]; exact hc

theorem PE.item_l {value slice : Expr} {pos : Pos} {Ps : List VP} {i : Int} {R : VP} (hv : PE prog w base A env G value (vl Ps)) (hi : PE prog w base A env G slice (vi i))
    (h0 : 0 ≤ i) (hfit : i < 2 ^ 63) (hx : Ps[i.toNat]? = some R) (hs : ∀ o i, subscripted slice false o i = operate [o, i] (getItem o i)) : PE prog w base A env G (.Subscript value slice pos) R := by
  refine PE.item hv hi ?_ hs
  rintro s _ _ Q E hb ⟨a, us, rfl, hl, x⟩ ⟨u, rfl⟩ k
  obtain ⟨v, e, p⟩ := x.get' hx
  exact ⟨"list", _, hl.typeIs, slot_list_getitem.lookup, wpAny_getItem_list hl h0 hfit (by simpa using e) (k v s.heap s.toks Kp.rf p)⟩

theorem PE.item_ln {value slice : Expr} {pos : Pos} {Ps : List VP} {i : Int} {R : VP} (hv : PE prog w base A env G value (vl Ps)) (hi : PE prog w base A env G slice (vi i))
    (h0 : i < 0) (h1 : -(Ps.length : Int) ≤ i) (hfit : -(2 ^ 63) ≤ i) (hx : Ps[(i + Ps.length).toNat]? = some R) (hs : ∀ o i, subscripted slice false o i = operate [o, i] (getItem o i)) :
    PE prog w base A env G (.Subscript value slice pos) R := by
  refine PE.item hv hi ?_ hs
  rintro s _ _ Q E hb ⟨a, us, rfl, hl, x⟩ ⟨u, rfl⟩ k
  obtain ⟨v, e, p⟩ := x.get' hx
  have hlen := x.length
  refine ⟨"list", _, hl.typeIs, slot_list_getitem.lookup, wpAny_getItem_list_neg hl h0 ?_ hfit ?_ (k v s.heap s.toks Kp.rf p)⟩
  · simp; omega
  · simp only [List.size_toArray, hlen]; simpa using e
end
end Mine
namespace Mine
open PySem PyProof.Rows

/-- the addresses of a frame -/
def fa (env : Env) : List Addr := env.locals :: env.cells.filterMap fun p => env.cells.lookup p.1
def KX (mu : List Addr) (h h' : Heap) : Prop := ∀ b o, b ∉ mu → h.get? b = some o → h'.get? b = some o
theorem Kp.kx {mu : List Addr} {h h' : Heap} (k : Kp h h') : KX mu h h' := fun b o _ e => k b o e
theorem KX.tr {mu : List Addr} {a b c : Heap} (x : KX mu a b) (y : KX mu b c) : KX mu a c := fun p o n e => y p o n (x p o n e)
theorem KX.mono {mu mu' : List Addr} {a b : Heap} (x : KX mu a b) (h : ∀ p ∈ mu, p ∈ mu') : KX mu' a b := fun p o n e => x p o (fun q => n (h p q)) e
/-- what a store into the frame leaves -/
structure Kf (env : Env) (h h' : Heap) : Prop where
  ks : Ks h h'
  kx : KX (fa env) h h'
theorem Kp.kf {env : Env} {h h' : Heap} (k : Kp h h') : Kf env h h' := ⟨k.ks, k.kx⟩
theorem Kf.tr {env : Env} {a b c : Heap} (x : Kf env a b) (y : Kf env b c) : Kf env a c := ⟨x.ks.tr y.ks, x.kx.tr y.kx⟩
theorem lookup_mem_fa {env : Env} {x : Str} {c : Addr} (h : env.cells.lookup x = some c) : c ∈ fa env := List.mem_cons_of_mem _ (List.mem_filterMap.mpr ⟨(x, c), mem_of_lookup h, h⟩)

structure FEnv (env : Env) : Prop extends EnvOk env where
  cok : ∀ x, env.kindOf x = some .cell → ∃ c, env.cells.lookup x = some c

def slotv (env : Env) (m cm : Str → Option Value) (x : Str) : Option Value := match env.kindOf x with
  | some .local => m x
  | some .cell => cm x
  | _ => none

/-- the state within a call: s₀ is the state at its start -/
structure Fs (s₀ : Shared) (env : Env) (G : List (Str × VP)) (s : Shared) : Prop where
  ic : ∃ m cm, InCallC s₀ env.locals m env.cells cm s ∧ ∀ x P, G.lookup x = some P → ∃ v, slotv env m cm x = some v ∧ P.p s.heap v
  sq : ∀ x P, G.lookup x = some P → Sq P

section
variable {s₀ s : Shared} {env : Env} {G : List (Str × VP)}

theorem Fs.vars (F : Fs s₀ env G s) (fe : FEnv env) : Vars env G s.heap := by
  obtain ⟨m, cm, ic, hv⟩ := F.ic
  intro x P e
  obtain ⟨v, hs, hp⟩ := hv x P e
  refine ⟨v, ?_, hp⟩
  unfold slotv at hs
  split at hs
  · rename_i hk; exact .inl ⟨hk, m, ic.toInCall.ns, hs⟩
  · rename_i hk
    obtain ⟨c, hc⟩ := fe.cok x hk
    refine .inr (.inl ⟨hk, c, hc, ?_⟩)
    have := ic.cell x c hc
    rw [hs] at this; exact this
  · cases hs

theorem Fs.keep (F : Fs s₀ env G s) : Kp s₀.heap s.heap := let ⟨_, _, ic, _⟩ := F.ic; ic.toInCall.keep
theorem Fs.same (F : Fs s₀ env G s) : ∃ h tk, s = { s₀ with heap := h, toks := tk } := let ⟨_, _, ic, _⟩ := F.ic; ic.toInCall.same

theorem incall_up {m cm : Str → Option Value} {h' : Heap} {tk : Nat} (ic : InCallC s₀ env.locals m env.cells cm s) (k : Kp s.heap h') : InCallC s₀ env.locals m env.cells cm { s with heap := h', toks := tk } := by
  obtain ⟨⟨same, ns, keep, fresh⟩, cell, apart, above⟩ := ic
  refine ⟨⟨?_, ns.keeps k, fun b o e => k b o (keep b o e), fresh⟩, fun n c hc => (cell n c hc).keeps k, apart, above⟩
  obtain ⟨h, t, rfl⟩ := same
  exact ⟨h', tk, rfl⟩

theorem Fs.up (F : Fs s₀ env G s) {h' : Heap} {tk : Nat} (k : Kp s.heap h') : Fs s₀ env G { s with heap := h', toks := tk } := by
  obtain ⟨m, cm, ic, hv⟩ := F.ic
  refine ⟨⟨m, cm, incall_up ic k, fun x P e => ?_⟩, F.sq⟩
  obtain ⟨v, hs, hp⟩ := hv x P e
  exact ⟨v, hs, P.up _ _ _ k hp⟩

theorem Fs.sub (F : Fs s₀ env G s) {G' : List (Str × VP)} (h : ∀ x P, G'.lookup x = some P → G.lookup x = some P) : Fs s₀ env G' s := by
  obtain ⟨m, cm, ic, hv⟩ := F.ic
  exact ⟨⟨m, cm, ic, fun x P e => hv x P (h x P e)⟩, fun x P e => F.sq x P (h x P e)⟩

theorem Fs.conv (F : Fs s₀ env G s) {G' : List (Str × VP)} (h : ∀ x P', G'.lookup x = some P' → Sq P' ∧ ∃ P, G.lookup x = some P ∧ ∀ v, P.p s.heap v → P'.p s.heap v) : Fs s₀ env G' s := by
  obtain ⟨m, cm, ic, hv⟩ := F.ic
  refine ⟨⟨m, cm, ic, fun x P' e => ?_⟩, fun x P e => (h x P e).1⟩
  obtain ⟨P, e1, e2⟩ := (h x P' e).2
  obtain ⟨v, hs, hp⟩ := hv x P e1
  exact ⟨v, hs, e2 v hp⟩

theorem lookup_cons_cases {x y : Str} {P Q : VP} {G : List (Str × VP)} (h : ((x, P) :: G).lookup y = some Q) : (y = x ∧ Q = P) ∨ (y ≠ x ∧ G.lookup y = some Q) := by
  rw [List.lookup_cons] at h
  by_cases e : y = x
  · subst e; simp at h; exact .inl ⟨rfl, h.symm⟩
  · have : (y == x) = false := beq_eq_false_iff_ne.mpr e
    rw [this] at h; exact .inr ⟨e, h⟩

/-- an object other than the frame's is changed: flat variables stand -/
theorem Fs.mutd (F : Fs s₀ env G s) (hf : ∀ x P, G.lookup x = some P → Flat P) {h' : Heap} {tk : Nat} {r : Addr} (hs : Heap.SameBut r s.heap h') (hr : s₀.heap.get? r = none)
    (ho : ∃ o, s.heap.get? r = some o ∧ isSeq o = true) : Fs s₀ env G { s with heap := h', toks := tk } := by
  obtain ⟨m, cm, ic, hv⟩ := F.ic
  obtain ⟨⟨same, ns, keep, fresh⟩, cell, apart, above⟩ := ic
  obtain ⟨o, ho, hq⟩ := ho
  have hL : env.locals ≠ r := by
    rintro rfl
    obtain ⟨o', es, ep, h1, h2, _⟩ := ns
    rw [ho] at h1; cases h1
    simp [isSeq, h2] at hq
  refine ⟨⟨m, cm, ⟨⟨?_, ns.sameBut hs hL, fun b ob e => ?_, fresh⟩, fun n c hc => ?_, apart, above⟩, fun x P e => ?_⟩, F.sq⟩
  · obtain ⟨h, t, rfl⟩ := same
    exact ⟨h', tk, rfl⟩
  · have hb : b ≠ r := by rintro rfl; rw [hr] at e; cases e
    exact (hs.2 b hb).trans (keep b ob e)
  · refine (cell n c hc).sameBut hs ?_
    rintro rfl
    obtain ⟨o', h1, h2⟩ := cell n c hc
    rw [ho] at h1; cases h1
    simp [isSeq, h2] at hq
  · obtain ⟨v, h1, h2⟩ := hv x P e
    exact ⟨v, h1, hf x P e _ _ _ h2⟩
end

section
variable {prog : Program} {w : World} {base : Heap} {A : Around} {E : Value → Shared → Prop} {s₀ s : Shared} {env : Env} {G : List (Str × VP)}

theorem store_ {x : Str} {v : Value} {P : VP} {Q : Unit → Shared → Prop} (fe : FEnv env) (F : Fs s₀ env G s) (hk : env.kindOf x = some .local ∨ env.kindOf x = some .cell) (hp : P.p s.heap v) (hq : Sq P)
    (k : ∀ h' tk, Kf env s.heap h' → Fs s₀ env ((x, P) :: G) { s with heap := h', toks := tk } → Q () { s with heap := h', toks := tk }) :
    wpAny (model prog w) A (storeName env x v) Q E s := by
  obtain ⟨m, cm, ic, hv⟩ := F.ic
  have hsq : ∀ y P', ((x, P) :: G).lookup y = some P' → Sq P' := fun y P' e => by
    rcases lookup_cons_cases e with ⟨_, rfl⟩ | ⟨_, e⟩
    · exact hq
    · exact F.sq y P' e
  rcases hk with hk | hk
  · obtain ⟨o, es, ep, ho, hd, hrest⟩ := id ic.toInCall.ns
    refine wpAny_storeName_local hk ic.toInCall.ns (fun h' hn hs => ?_) (by rw [fe.k]; rfl)
    have ks : Ks s.heap h' := ks_of_sameBut hs fun o' e => by rw [ho] at e; cases e; simp [isSeq, hd]
    have kf : Kf env s.heap h' := ⟨ks, fun b o hb e => (hs.2 b (fun q => hb (q ▸ List.mem_cons_self))).trans e⟩
    refine k h' _ kf ⟨⟨fun y => if y = x then some v else m y, cm, ⟨⟨?_, hn, fun b o e => ?_, ic.toInCall.fresh⟩, fun n c hc => ?_, ic.apart, ic.above⟩, fun y P' e => ?_⟩, hsq⟩
    · obtain ⟨h₁, t, rfl⟩ := ic.toInCall.same
      exact ⟨h', _, rfl⟩
    · exact hs.extBut b o (Nat.ne_of_lt (Nat.lt_of_lt_of_le (Heap.lt_size e) ic.toInCall.fresh)) (ic.toInCall.keep b o e)
    · exact (ic.cell n c hc).sameBut hs (Nat.ne_of_gt (ic.above n c (mem_of_lookup hc)))
    · rcases lookup_cons_cases e with ⟨rfl, rfl⟩ | ⟨hne, e⟩
      · exact ⟨v, by simp [slotv, hk], hq _ _ _ ks hp⟩
      · obtain ⟨u, h1, h2⟩ := hv y P' e
        refine ⟨u, ?_, F.sq y P' e _ _ _ ks h2⟩
        unfold slotv at h1 ⊢
        split at h1 <;> simp_all
  · obtain ⟨c, hc⟩ := fe.cok x hk
    obtain ⟨o, ho, hd⟩ := ic.cell x c hc
    have hLc := ic.above x c (mem_of_lookup hc)
    refine wpAny_storeName_cell fe.k hk hc (ic.cell x c hc) fun h' hc' hs => ?_
    have ks : Ks s.heap h' := ks_of_sameBut hs fun o' e => by rw [ho] at e; cases e; simp [isSeq, hd]
    have kf : Kf env s.heap h' := ⟨ks, fun b o hb e => (hs.2 b (fun q => hb (q ▸ lookup_mem_fa hc))).trans e⟩
    refine k h' s.toks kf ⟨⟨m, fun y => if y = x then some v else cm y, ⟨⟨?_, ic.toInCall.ns.sameBut hs (Nat.ne_of_lt hLc), fun b o e => ?_, ic.toInCall.fresh⟩, fun n c' hk' => ?_, ic.apart, ic.above⟩, fun y P' e => ?_⟩, hsq⟩
    · obtain ⟨h₁, t, rfl⟩ := ic.toInCall.same
      exact ⟨h', _, rfl⟩
    · exact hs.extBut b o (Nat.ne_of_lt (Nat.lt_trans (Nat.lt_of_lt_of_le (Heap.lt_size e) ic.toInCall.fresh) hLc)) (ic.toInCall.keep b o e)
    · by_cases hkn : n = x
      · subst hkn
        rw [hc] at hk'; cases hk'
        simpa using hc'
      · rw [if_neg hkn]
        exact (ic.cell n c' hk').sameBut hs fun e => hkn (name_of_addr ic.apart (mem_of_lookup hk') (e ▸ mem_of_lookup hc))
    · rcases lookup_cons_cases e with ⟨rfl, rfl⟩ | ⟨hne, e⟩
      · exact ⟨v, by simp [slotv, hk], hq _ _ _ ks hp⟩
      · obtain ⟨u, h1, h2⟩ := hv y P' e
        refine ⟨u, ?_, F.sq y P' e _ _ _ ks h2⟩
        unfold slotv at h1 ⊢
        split at h1 <;> simp_all

theorem ex_nil {Q : Flow → Shared → Prop} (k : Q .next s) : wpAny (model prog w) A (execs [] env) Q E s := wpAny_execs_nil k

theorem ex_assign {x : Str} {p' pos : Pos} {value : Expr} {rest : List Stmt} {P : VP} {Q : Flow → Shared → Prop} (fe : FEnv env) (hb : Kp base s.heap) (F : Fs s₀ env G s)
    (hk : env.kindOf x = some .local ∨ env.kindOf x = some .cell) (hs : swapsWith value (some (.Name x p')) pos.line env = pure false) (hq : Sq P) (he : PE prog w base A env G value P)
    (k : ∀ h' tk, Kf env s.heap h' → Fs s₀ env ((x, P) :: G) { s with heap := h', toks := tk } → wpAny (model prog w) A (execs rest env) Q E { s with heap := h', toks := tk }) :
    wpAny (model prog w) A (execs (.Assign [.Name x p'] value pos :: rest) env) Q E s := by
  refine wpAny_execs_cons (wpAny_Assign_Name (he s _ E hb (F.vars fe) fun v h1 t1 k1 p1 => ?_) hs)
  exact store_ fe (F.up k1) hk p1 hq fun h' tk ks F' => k h' tk (k1.kf.tr ks) F'

theorem ex_assign2 {x y : Str} {p' p'' pos : Pos} {value : Expr} {rest : List Stmt} {P : VP} {Q : Flow → Shared → Prop} (fe : FEnv env) (hb : Kp base s.heap) (F : Fs s₀ env G s)
    (hk : env.kindOf x = some .local ∨ env.kindOf x = some .cell) (hk' : env.kindOf y = some .local ∨ env.kindOf y = some .cell) (hq : Sq P) (he : PE prog w base A env G value P)
    (k : ∀ h' tk, Kf env s.heap h' → Fs s₀ env ((y, P) :: (x, P) :: G) { s with heap := h', toks := tk } → wpAny (model prog w) A (execs rest env) Q E { s with heap := h', toks := tk }) :
    wpAny (model prog w) A (execs (.Assign [.Name x p', .Name y p''] value pos :: rest) env) Q E s := by
  refine wpAny_execs_cons (wpAny_Assign_two (he s _ E hb (F.vars fe) fun v h1 t1 k1 p1 => ?_) rfl rfl)
  refine wpAny_assign_Name (store_ fe (F.up k1) hk p1 hq fun h2 t2 ks F' => ?_)
  refine wpAny_assign_Name (store_ fe F' hk' (hq _ _ _ ks.ks p1) hq fun h3 t3 ks' F'' => ?_)
  exact k h3 t3 (k1.kf.tr (ks.tr ks')) F''

theorem load_ {x : Str} {P : VP} {Q : Value → Shared → Prop} (ok : EnvOk env) (hv : Vars env G s.heap) (hl : G.lookup x = some P) (k : ∀ v, P.p s.heap v → Q v s) : wpAny (model prog w) A (loadName env x) Q E s := by
  obtain ⟨v, l, p⟩ := hv x P hl
  rcases l with ⟨hk, m, n, e⟩ | ⟨hk, c, l, e⟩ | ⟨hk, hc, c, l, e⟩
  · exact wpAny_loadName_local ok.k hk n e (k v p)
  · exact wpAny_loadName_cell ok.k hk l e (k v p)
  · exact wpAny_loadName_free ok.k hk l e (k v p) hc

theorem ex_aug {x : Str} {p' pos : Pos} {op : Operator} {value : Expr} {rest : List Stmt} {P0 P1 P : VP} {Q : Flow → Shared → Prop} (fe : FEnv env) (hb : Kp base s.heap) (F : Fs s₀ env G s)
    (hk : env.kindOf x = some .local ∨ env.kindOf x = some .cell) (hq : Sq P) (hx : G.lookup x = some P0)
    (he : PE prog w base A env G value P1) (ho : OpI prog w base A op P0 P1 P)
    (k : ∀ h' tk, Kf env s.heap h' → Fs s₀ env ((x, P) :: G) { s with heap := h', toks := tk } → wpAny (model prog w) A (execs rest env) Q E { s with heap := h', toks := tk }) :
    wpAny (model prog w) A (execs (.AugAssign (.Name x p') op value pos :: rest) env) Q E s := by
  refine wpAny_execs_cons (wpAny_AugAssign_Name (load_ fe.toEnvOk (F.vars fe) hx fun v0 p1 => ?_))
  refine he _ _ E hb (F.vars fe) fun v1 h2 t2 k2 p2 => ?_
  refine ho _ _ _ _ E (hb.tr k2) (P0.up _ _ _ k2 p1) p2 fun v2 h3 t3 k3 p3 => ?_
  exact store_ fe (F.up (k2.tr k3)) hk p3 hq fun h' tk ks F' => k h' tk ((k2.tr k3).kf.tr ks) F'

theorem ex_ret {e : Expr} {pos : Pos} {rest : List Stmt} {P : VP} {Q : Flow → Shared → Prop} (fe : FEnv env) (hb : Kp base s.heap) (F : Fs s₀ env G s) (he : PE prog w base A env G e P)
    (k : ∀ v h' tk, Kp s.heap h' → P.p h' v → Q (.ret v) { s with heap := h', toks := tk }) : wpAny (model prog w) A (execs (.Return (some e) pos :: rest) env) Q E s :=
  wpAny_execs_cons (wpAny_Return_some (he s _ E hb (F.vars fe) fun v h1 t1 k1 p1 => k v h1 t1 k1 p1))

theorem ex_if {test : Expr} {body orelse rest : List Stmt} {pos : Pos} {b : Bool} {Q : Flow → Shared → Prop} (fe : FEnv env) (hb : Kp base s.heap) (F : Fs s₀ env G s) (ht : PT prog w base A env G test b)
    (k1 : b = true → ∀ h' tk, Kp s.heap h' → Fs s₀ env G { s with heap := h', toks := tk } →
      wpAny (model prog w) A (execs body env) (fun f s' => match f with | .next => wpAny (model prog w) A (execs rest env) Q E s' | f => Q f s') E { s with heap := h', toks := tk })
    (k0 : b = false → ∀ h' tk, Kp s.heap h' → Fs s₀ env G { s with heap := h', toks := tk } →
      wpAny (model prog w) A (execs orelse env) (fun f s' => match f with | .next => wpAny (model prog w) A (execs rest env) Q E s' | f => Q f s') E { s with heap := h', toks := tk }) :
    wpAny (model prog w) A (execs (.If test body orelse pos :: rest) env) Q E s := by
  refine wpAny_execs_cons (wpAny_If (ht s _ E hb (F.vars fe) fun h1 t1 kk => ?_))
  cases b with
  | true => exact k1 rfl h1 t1 kk (F.up kk)
  | false => exact k0 rfl h1 t1 kk (F.up kk)

/-- an if without else -/
theorem ex_if1 {test : Expr} {body rest : List Stmt} {pos : Pos} {b : Bool} {Q : Flow → Shared → Prop} (fe : FEnv env) (hb : Kp base s.heap) (F : Fs s₀ env G s) (ht : PT prog w base A env G test b)
    (k1 : b = true → ∀ h' tk, Kp s.heap h' → Fs s₀ env G { s with heap := h', toks := tk } →
      wpAny (model prog w) A (execs body env) (fun f s' => match f with | .next => wpAny (model prog w) A (execs rest env) Q E s' | f => Q f s') E { s with heap := h', toks := tk })
    (k0 : b = false → ∀ h' tk, Kp s.heap h' → Fs s₀ env G { s with heap := h', toks := tk } → wpAny (model prog w) A (execs rest env) Q E { s with heap := h', toks := tk }) :
    wpAny (model prog w) A (execs (.If test body [] pos :: rest) env) Q E s :=
  ex_if fe hb F ht k1 fun e h' tk kk F' => wpAny_execs_nil (k0 e h' tk kk F')

/-- two or three names at once, stored from behind -/
theorem ex_swap2 {x y : Str} {px py tpos vpos pos : Pos} {c c' : Nat} {e1 e2 : Expr} {rest : List Stmt} {P1 P2 : VP} {Q : Flow → Shared → Prop} (hh : A.handled = none) (fe : FEnv env) (hb : Kp base s.heap) (F : Fs s₀ env G s)
    (hk : env.kindOf x = some .local ∨ env.kindOf x = some .cell) (hk' : env.kindOf y = some .local ∨ env.kindOf y = some .cell) (hq1 : Sq P1) (hq2 : Sq P2)
    (hsw : swappedStores [.Tuple [.Name x px, .Name y py] c tpos] (.Tuple [e1, e2] c' vpos) env = pure (some [x, y]))
    (he : PE prog w base A env G (.Tuple [e1, e2] c' vpos) (vt [P1, P2]))
    (k : ∀ h' tk, Kf env s.heap h' → Fs s₀ env ((x, P1) :: (y, P2) :: G) { s with heap := h', toks := tk } → wpAny (model prog w) A (execs rest env) Q E { s with heap := h', toks := tk }) :
    wpAny (model prog w) A (execs (.Assign [.Tuple [.Name x px, .Name y py] c tpos] (.Tuple [e1, e2] c' vpos) pos :: rest) env) Q E s := by
  refine wpAny_execs_cons ?_
  rw [exec_Assign_arm]
  refine wpAny_bind (wpAny_standAt ?_)
  refine wpAny_bind (m := swapsWithSole _ _ _ _) (wpAny_pure ?_)
  rw [if_neg (by decide)]
  refine wpAny_bind (he s _ E hb (F.vars fe) fun v h1 t1 k1 p1 => ?_)
  obtain ⟨a, us, rfl, hl, hx⟩ := p1
  match us, hx with
  | [v1, v2], ⟨q1, q2, _⟩ =>
    rw [hsw]
    refine wpAny_bind (wpAny_pure ?_)
    show wpAny _ _ (rule "assign.swapped-stores" >>= fun _ => unpackItems (.ref a) 2 none >>= fun items => assignInOrder [fun v => bindName env y v, fun v => bindName env x v] items.reverse >>= fun _ => pure Flow.next) _ _ _
    refine wpAny_bind (wpAny_rule (wpAny_bind (wpAny_unpackItems_tuple (items := #[v1, v2]) hh hl fun h2 he2 => ?_)))
    have k2 : Kp h1 h2 := fun b o e => he2 b o (Nat.ne_of_lt (Heap.lt_size e)) e
    show wpAny _ _ (assignInOrder [fun v => bindName env y v, fun v => bindName env x v] [v2, v1] >>= fun _ => pure Flow.next) _ _ _
    refine wpAny_bind ?_
    show wpAny _ _ (holding [v1] (bindName env y v2) >>= fun _ => (holding [] (bindName env x v1) >>= fun _ => pure ())) _ _ _
    refine wpAny_bind (wpAny_holding (wpAny_bindName (store_ fe (F.up (tk := t1) (k1.tr k2)) hk' (P2.up _ _ _ k2 q2) hq2 fun h3 t3 ks F' => ?_)))
    refine wpAny_bind (wpAny_holding (wpAny_bindName (store_ fe F' hk (hq1 _ _ _ ks.ks (P1.up _ _ _ k2 q1)) hq1 fun h4 t4 ks' F'' => ?_)))
    exact wpAny_pure (wpAny_pure (k h4 t4 ((k1.tr k2).kf.tr (ks.tr ks')) F''))

theorem ex_swap3 {x y z : Str} {px py pz tpos vpos pos : Pos} {c c' : Nat} {e1 e2 e3 : Expr} {rest : List Stmt} {P1 P2 P3 : VP} {Q : Flow → Shared → Prop} (hh : A.handled = none) (fe : FEnv env) (hb : Kp base s.heap) (F : Fs s₀ env G s)
    (hk : env.kindOf x = some .local ∨ env.kindOf x = some .cell) (hk' : env.kindOf y = some .local ∨ env.kindOf y = some .cell) (hk'' : env.kindOf z = some .local ∨ env.kindOf z = some .cell) (hq1 : Sq P1) (hq2 : Sq P2) (hq3 : Sq P3)
    (hsw : swappedStores [.Tuple [.Name x px, .Name y py, .Name z pz] c tpos] (.Tuple [e1, e2, e3] c' vpos) env = pure (some [x, y, z]))
    (he : PE prog w base A env G (.Tuple [e1, e2, e3] c' vpos) (vt [P1, P2, P3]))
    (k : ∀ h' tk, Kf env s.heap h' → Fs s₀ env ((x, P1) :: (y, P2) :: (z, P3) :: G) { s with heap := h', toks := tk } → wpAny (model prog w) A (execs rest env) Q E { s with heap := h', toks := tk }) :
    wpAny (model prog w) A (execs (.Assign [.Tuple [.Name x px, .Name y py, .Name z pz] c tpos] (.Tuple [e1, e2, e3] c' vpos) pos :: rest) env) Q E s := by
  refine wpAny_execs_cons ?_
  rw [exec_Assign_arm]
  refine wpAny_bind (wpAny_standAt ?_)
  refine wpAny_bind (m := swapsWithSole _ _ _ _) (wpAny_pure ?_)
  rw [if_neg (by decide)]
  refine wpAny_bind (he s _ E hb (F.vars fe) fun v h1 t1 k1 p1 => ?_)
  obtain ⟨a, us, rfl, hl, hx⟩ := p1
  match us, hx with
  | [v1, v2, v3], ⟨q1, q2, q3, _⟩ =>
    rw [hsw]
    refine wpAny_bind (wpAny_pure ?_)
    show wpAny _ _ (rule "assign.swapped-stores" >>= fun _ => unpackItems (.ref a) 3 none >>= fun items => assignInOrder [fun v => bindName env z v, fun v => bindName env y v, fun v => bindName env x v] items.reverse >>= fun _ => pure Flow.next) _ _ _
    refine wpAny_bind (wpAny_rule (wpAny_bind (wpAny_unpackItems_tuple (items := #[v1, v2, v3]) hh hl fun h2 he2 => ?_)))
    have k2 : Kp h1 h2 := fun b o e => he2 b o (Nat.ne_of_lt (Heap.lt_size e)) e
    show wpAny _ _ (assignInOrder [fun v => bindName env z v, fun v => bindName env y v, fun v => bindName env x v] [v3, v2, v1] >>= fun _ => pure Flow.next) _ _ _
    refine wpAny_bind ?_
    show wpAny _ _ (holding [v2, v1] (bindName env z v3) >>= fun _ => (holding [v1] (bindName env y v2) >>= fun _ => (holding [] (bindName env x v1) >>= fun _ => pure ()))) _ _ _
    refine wpAny_bind (wpAny_holding (wpAny_bindName (store_ fe (F.up (tk := t1) (k1.tr k2)) hk'' (P3.up _ _ _ k2 q3) hq3 fun h3 t3 ks F' => ?_)))
    refine wpAny_bind (wpAny_holding (wpAny_bindName (store_ fe F' hk' (hq2 _ _ _ ks.ks (P2.up _ _ _ k2 q2)) hq2 fun h4 t4 ks' F'' => ?_)))
    refine wpAny_bind (wpAny_holding (wpAny_bindName (store_ fe F'' hk (hq1 _ _ _ ks'.ks (hq1 _ _ _ ks.ks (P1.up _ _ _ k2 q1))) hq1 fun h5 t5 ks'' F''' => ?_)))
    exact wpAny_pure (wpAny_pure (k h5 t5 ((k1.tr k2).kf.tr (ks.tr (ks'.tr ks''))) F'''))
end
end Mine
namespace Mine
open PySem PyProof.Rows

/-- a new list -/
def vln (h₀ : Heap) (Ps : List VP) : VP := ⟨fun h v => ∃ (a : Addr) (us : List Value), v = .ref a ∧ h₀.get? a = none ∧ h.IsList a us.toArray ∧ All2 h us Ps,
  fun _ _ _ k ⟨a, us, e, n, l, x⟩ => ⟨a, us, e, n, isList_ks k.ks l, x.up k⟩⟩
theorem vln_vl {h₀ : Heap} {Ps : List VP} {h : Heap} {v : Value} (x : (vln h₀ Ps).p h v) : (vl Ps).p h v := let ⟨a, us, e, _, l, y⟩ := x; ⟨a, us, e, l, y⟩
theorem sq_vln {h₀ : Heap} {Ps : List VP} (hs : ∀ P ∈ Ps, Sq P) : Sq (vln h₀ Ps) := fun _ _ _ k ⟨a, us, e, n, l, x⟩ => ⟨a, us, e, n, isList_ks k l, x.sq k hs⟩

def vrg (a b c : Int) : VP := ⟨fun h v => ∃ (r : Addr) (t u x : Tok), v = .ref r ∧ IsRange h r a b c t u x, fun _ _ _ k ⟨r, t, u, x, e, h⟩ => ⟨r, t, u, x, e, k _ _ h⟩⟩

def rgi (a c : Int) (n : Nat) : List Int := (List.range n).map fun (i : Nat) => a + (i : Int) * c

section
variable {prog : Program} {w : World} {base : Heap} {A : Around} {env : Env} {G : List (Str × VP)}

theorem do_range1 {n : Int} : Does prog w base A (.type "range") [vi n] (vrg 0 n 1) := by
  intro s us Q E hb x k
  match us, x with
  | [_], ⟨⟨t, rfl⟩, _⟩ => exact call_range_1 (k _ _ _ (Kp.push _ _) ⟨_, _, _, _, rfl, IsRange.new ..⟩)
theorem do_range2 {a b : Int} : Does prog w base A (.type "range") [vi a, vi b] (vrg a b 1) := by
  intro s us Q E hb x k
  match us, x with
  | [_, _], ⟨⟨t, rfl⟩, ⟨u, rfl⟩, _⟩ => exact call_range_2 (k _ _ _ (Kp.push _ _) ⟨_, _, _, _, rfl, IsRange.new ..⟩)
theorem do_range3 {a b c : Int} (hc : c ≠ 0) (hp : Builtin.divisionGoesByPylong (b - a) c = false) : Does prog w base A (.type "range") [vi a, vi b, vi c] (vrg a b c) := by
  intro s us Q E hb x k
  match us, x with
  | [_, _, _], ⟨⟨t, rfl⟩, ⟨u, rfl⟩, ⟨y, rfl⟩, _⟩ => exact call_range_3 hc (k _ _ _ (Kp.push _ _) ⟨_, _, _, _, rfl, IsRange.new ..⟩) (.inl hp)

theorem do_list_range {a b c : Int} {n : Nat} (hh : A.handled = none) (hsmall : Builtin.Range.small a b c = true) (hn : Builtin.Range.rangeSize a b c = n) (hlen : n ≤ 2 ^ 24) :
    Does prog w base A (.type "list") [vrg a b c] (vln base ((rgi a c n).map vi)) := by
  intro s us Q E hb x k
  match us, x with
  | [_], ⟨⟨r, t, u, y, rfl, hr⟩, _⟩ =>
    refine call_list_range hh hr hsmall hn hlen fun h' tk acc c' hk hS hacc => ?_
    refine k _ h' tk hk ⟨_, acc.toList, rfl, hb.none_of, ⟨_, hS, rfl, c', by simp⟩, All2.of_get ?_ fun i v P e1 e2 => ?_⟩
    · simp [rgi, hacc.1]
    · have hlt : i < n := by
        have := (List.getElem?_eq_some_iff.mp e1).1
        have e := hacc.1
        simp at this; omega
      obtain ⟨t, ht⟩ := hacc.2 i v (by simpa using e1)
      have : P = vi (a + i * c) := by
        simp [rgi, hlt] at e2; exact e2.symm
      subst this
      exact ⟨t, ht⟩

/-- something that can be gone through; the objects of mu may change meanwhile -/
def It (prog : Program) (w : World) (A : Around) (mu : List Addr) (items : List VP) (h : Heap) (v : Value) : Prop :=
  ∀ (s : Shared) (Q : Value → Shared → Prop) (E : Value → Shared → Prop), Kp h s.heap → (∀ b ∈ mu, ∃ o, s.heap.get? b = some o) →
    (∀ (I : Addr) (fp : List Addr) (P : Nat → Value → Prop) (St : Nat → Heap → Prop) (h' : Heap) (tk : Nat), Walks prog w A I fp [I] items.length P St → St 0 h' → (∀ b ∈ fp, b ∉ mu) → (∀ b ∈ fp, b < h'.objs.size) →
      s.heap.get? I = none → (∀ i hh, St i hh → ∃ o vs, hh.get? I = some o ∧ o.data = .fields vs) → Kp s.heap h' → (∀ i v, P i v → ∃ R, items[i]? = some R ∧ R.p s.heap v) → Q (.ref I) { s with heap := h', toks := tk }) →
    wpAny (model prog w) A (pyIter v) Q E s

theorem it_list {mu : List Addr} {items : List VP} {h : Heap} {a : Addr} {us : List Value} (hh : A.handled = none) (hl : h.IsList a us.toArray) (hx : All2 h us items) (ha : a ∉ mu) :
    It prog w A mu items h (.ref a) := by
  intro s Q E kp hmu k
  have hls : s.heap.IsList a us.toArray := isList_ks kp.ks hl
  obtain ⟨ol, hol, _⟩ := id hls
  have hne : a ≠ s.heap.objs.size := Nat.ne_of_lt (Heap.lt_size hol)
  have hfresh : s.heap.get? s.heap.objs.size = none := Kp.rf.none_of
  have hI : s.heap.objs.size ∉ mu := fun hm => by obtain ⟨o, e⟩ := hmu _ hm; rw [hfresh] at e; cases e
  refine wpAny_pyIter_list hls ?_
  have W := Walks.list (prog := prog) (w := w) hh s.heap.objs.size a hne us.toArray
  have hlen : us.toArray.size = items.length := by simp [hx.length]
  rw [hlen] at W
  refine k s.heap.objs.size _ _ _ _ _ W ⟨⟨_, Heap.get?_push_size _ rfl, rfl, rfl⟩, hls.at fun o e => Heap.get?_push_of_some _ e⟩ ?_ ?_ hfresh ?_ (Kp.push _ _) ?_
  · intro b hb
    simp at hb
    rcases hb with rfl | rfl
    · exact hI
    · exact ha
  · intro b hb
    simp at hb
    rw [Heap.size_push]
    rcases hb with rfl | rfl
    · exact Nat.lt_succ_self _
    · exact Nat.lt_succ_of_lt (Heap.lt_size hol)
  · rintro i h' ⟨⟨o, h1, _, h3⟩, _⟩
    exact ⟨o, _, h1, h3⟩
  · intro i v e
    obtain ⟨P, e1, e2⟩ := (hx.up kp).get (i := i) (v := v) (by simpa using e)
    exact ⟨P, e1, e2⟩

theorem it_vl {items : List VP} {h : Heap} {v : Value} (hh : A.handled = none) (hv : (vl items).p h v) : It prog w A [] items h v := by
  obtain ⟨a, us, rfl, hl, hx⟩ := hv
  exact it_list hh hl hx (by simp)

theorem it_range {mu : List Addr} {a b c : Int} {n : Nat} {h : Heap} {v : Value} (hh : A.handled = none) (hv : (vrg a b c).p h v) (hsmall : Builtin.Range.small a b c = true) (hn : Builtin.Range.rangeSize a b c = n) :
    It prog w A mu ((rgi a c n).map vi) h v := by
  obtain ⟨r, t, u, x, rfl, hr⟩ := hv
  intro s Q E kp hmu k
  have hfresh : s.heap.get? s.heap.objs.size = none := Kp.rf.none_of
  have hI : s.heap.objs.size ∉ mu := fun hm => by obtain ⟨o, e⟩ := hmu _ hm; rw [hfresh] at e; cases e
  refine wpAny_pyIter_range (kp _ _ hr) hsmall ?_
  have W := Walks.range (prog := prog) (w := w) hh s.heap.objs.size a c n
  have hlen : n = ((rgi a c n).map vi).length := by simp [rgi]
  rw [hn]
  have st0 : IsRangeIter (s.heap.push { cls := .type "range_iterator", data := .fields #[rawInt a, rawInt n, rawInt c] }) s.heap.objs.size (a + ((0 : Nat) : Int) * c) ((n : Int) - ((0 : Nat) : Int)) c := by
    have e1 : a + ((0 : Nat) : Int) * c = a := by simp
    have e2 : (n : Int) - ((0 : Nat) : Int) = n := by simp
    rw [e1, e2]
    exact Heap.get?_push_size _ rfl
  refine k s.heap.objs.size [s.heap.objs.size] (fun i v => i < n ∧ ∃ t, v = .int (a + i * c) t) (fun i h => IsRangeIter h s.heap.objs.size (a + (i : Nat) * c) ((n : Int) - (i : Nat)) c) _ s.toks ?_ st0 ?_ ?_ hfresh ?_ (Kp.push _ _) ?_
  · rw [← hlen]
    exact { sub := W.sub, frame := W.frame, item := fun i s Q E hi st hQ => W.item i s Q E hi st fun v h' tk p => hQ v h' tk ⟨hi, p⟩, done := W.done, self := W.self }
  · intro b hb
    simp at hb; subst hb; exact hI
  · intro b hb
    simp at hb; subst hb; rw [Heap.size_push]; exact Nat.lt_succ_self _
  · intro i h' st
    exact ⟨_, _, st, rfl⟩
  · rintro i v ⟨hi, t, rfl⟩
    exact ⟨vi (a + i * c), by simp [rgi, hi], ⟨t, rfl⟩⟩
end

/-- all but iterators, slices, ranges and the like is kept -/
def KN (h h' : Heap) : Prop := ∀ b o, h.get? b = some o → (∀ vs, o.data ≠ .fields vs) → h'.get? b = some o
theorem KN.ks {h h' : Heap} (k : KN h h') : Ks h h' := fun b o e q => k b o e fun vs hd => by simp [isSeq, hd] at q

section
variable {prog : Program} {w : World} {base : Heap} {A : Around} {E : Value → Shared → Prop} {s₀ s : Shared} {env : Env} {G : List (Str × VP)}

theorem Fs.kn (F : Fs s₀ env G s) {h' : Heap} {tk : Nat} (k : KN s.heap h') (k0 : Kp s₀.heap h') : Fs s₀ env G { s with heap := h', toks := tk } := by
  obtain ⟨m, cm, ⟨⟨same, ns, keep, fresh⟩, cell, apart, above⟩, hv⟩ := F.ic
  refine ⟨⟨m, cm, ⟨⟨?_, ?_, k0, fresh⟩, fun n c hc => ?_, apart, above⟩, fun x P e => ?_⟩, F.sq⟩
  · obtain ⟨h, t, rfl⟩ := same
    exact ⟨h', tk, rfl⟩
  · obtain ⟨o, es, ep, ho, hd, r⟩ := ns
    exact ⟨o, es, ep, k _ _ ho (fun vs e => by rw [hd] at e; cases e), hd, r⟩
  · obtain ⟨o, ho, hd⟩ := cell n c hc
    exact ⟨o, k _ _ ho (fun vs e => by rw [hd] at e; cases e), hd⟩
  · obtain ⟨v, h1, h2⟩ := hv x P e
    exact ⟨v, h1, F.sq x P e _ _ _ k.ks h2⟩

theorem ex_while {test : Expr} {body rest : List Stmt} {pos : Pos} {Q : Flow → Shared → Prop} (fe : FEnv env) (hb : Kp base s₀.heap) (I : Nat → Shared → Prop) (n : Nat) (h : I n s)
    (turn : ∀ n s (E' : Value → Shared → Prop), I n s → ∃ (G : List (Str × VP)) (b : Bool), Fs s₀ env G s ∧ PT prog w base A env G test b ∧
      (b = true → ∀ h' tk, Kp s.heap h' → Fs s₀ env G { s with heap := h', toks := tk } →
        wpAny (model prog w) A (execs body env) (fun f s₃ => f = .next ∧ ∃ m, m < n ∧ I m s₃) E' { s with heap := h', toks := tk }) ∧
      (b = false → ∀ h' tk, Kp s.heap h' → Fs s₀ env G { s with heap := h', toks := tk } → wpAny (model prog w) A (execs rest env) Q E { s with heap := h', toks := tk })) :
    wpAny (model prog w) A (execs (.While test body [] pos :: rest) env) Q E s := by
  refine wpAny_execs_cons (wpAny_While (codeAny_whileLoop I (fun n s hI => ?_) n h))
  obtain ⟨G, b, F, ht, h1, h0⟩ := turn n s _ hI
  refine ht s _ _ (hb.tr F.keep) (F.vars fe) fun h' tk kk => ?_
  cases b with
  | true =>
    simp only [if_true]
    refine wpAny_mono (h1 rfl h' tk kk (F.up kk)) (fun f s₃ hf => ?_) fun _ _ e => e
    obtain ⟨rfl, hm⟩ := hf
    exact hm
  | false =>
    simp only [Bool.false_eq_true, if_false]
    exact wpAny_execs_nil (h0 rfl h' tk kk (F.up kk))

theorem ex_for {x : Str} {p' pos : Pos} {iter : Expr} {body rest : List Stmt} {Q : Flow → Shared → Prop} {P : VP} (fe : FEnv env) (hb : Kp base s.heap) (F : Fs s₀ env G s)
    (mu : List Addr) (items : List VP) (hi : PE prog w base A env G iter P) (hP : ∀ h' v, Kp s.heap h' → P.p h' v → It prog w A mu items h' v)
    (hfl : ∀ R ∈ items, Flat R) (hmu : ∀ b ∈ mu, ∃ o, s.heap.get? b = some o) (hmu0 : ∀ b ∈ mu, s₀.heap.get? b = none)
    (J : Nat → Shared → Prop) (h0 : ∀ h' tk, Kp s.heap h' → Fs s₀ env G { s with heap := h', toks := tk } → J 0 { s with heap := h', toks := tk })
    (hJ : ∀ i s' h' tk, J i s' → KN s'.heap h' → Kp s₀.heap h' → J i { s' with heap := h', toks := tk })
    (turn : ∀ i R (s' : Shared) v (E' : Value → Shared → Prop), items[i]? = some R → R.p s'.heap v → J i s' → KX mu s.heap s'.heap → (∃ h tk, s' = { s₀ with heap := h, toks := tk }) →
      wpAny (model prog w) A (storeName env x v) (fun _ s₂ => wpAny (model prog w) A (execs body env) (fun f s₃ => match f with
        | .next | .cont => J (i + 1) s₃ ∧ KX mu s'.heap s₃.heap ∧ (∃ h tk, s₃ = { s₀ with heap := h, toks := tk })
        | .brk => False
        | .ret u => Q (.ret u) s₃) E' s₂) E' s')
    (k : ∀ s', J items.length s' → KX mu s.heap s'.heap → (∃ h tk, s' = { s₀ with heap := h, toks := tk }) → wpAny (model prog w) A (execs rest env) Q E s')
    (hs : ∀ x, foldedSetIterable iter env x = pure x) :
    wpAny (model prog w) A (execs (.For (.Name x p') iter body [] pos :: rest) env) Q E s := by
  refine wpAny_execs_cons (wpAny_For (hi s _ E hb (F.vars fe) fun v h1 t1 k1 p1 => ?_) hs)
  refine hP h1 v k1 p1 { s with heap := h1, toks := t1 } _ E Kp.rf (fun b hb => let ⟨o, e⟩ := hmu b hb; ⟨o, k1 _ _ e⟩) fun I fp Pi St h2 t2 W st0 hfm hfp hI hfld k2 hit => ?_
  have F2 : Fs s₀ env G { s with heap := h2, toks := t2 } := F.up (k1.tr k2)
  have hI0 : s₀.heap.get? I = none := by
    cases e : s₀.heap.get? I with
    | none => rfl
    | some o => have := k1 _ _ (F.keep _ _ e); rw [this] at hI; cases hI
  have hIs : s.heap.get? I = none := by
    cases e : s.heap.get? I with
    | none => rfl
    | some o => have := k1 _ _ e; rw [this] at hI; cases hI
  refine codeAny_forLoop (fun n s' => ∃ i, n = items.length + 1 - i ∧ i ≤ items.length ∧ J i s' ∧ St i s'.heap ∧ KX mu s.heap s'.heap ∧ ∃ h tk, s' = { s₀ with heap := h, toks := tk })
    ?_ (items.length + 1) ⟨0, rfl, Nat.zero_le _, h0 h2 t2 (k1.tr k2) F2, st0, (k1.tr k2).kx, F2.same⟩
  rintro n s' ⟨i, rfl, hle, hj, st, kx, same⟩
  have kp0 : Kp s₀.heap s'.heap := fun b o e => kx b o (fun hm => by have := hmu0 b hm; rw [this] at e; cases e) (F.keep b o e)
  have step : ∀ h' : Heap, (∀ b o, b ∉ [I] → s'.heap.get? b = some o → h'.get? b = some o) → KN s'.heap h' ∧ Kp s₀.heap h' ∧ KX mu s.heap h' := by
    intro h' kk
    refine ⟨fun b o e hn => kk b o (fun hb => ?_) e, fun b o e => kk b o (fun hb => ?_) (kp0 b o e), fun b o hbm e => kk b o (fun hb => ?_) (kx b o hbm e)⟩
    · have hb : b = I := by simpa using hb
      subst hb
      obtain ⟨o', vs', e1, e2⟩ := hfld i _ st
      rw [e] at e1; cases e1
      exact hn _ e2
    · have hb : b = I := by simpa using hb
      subst hb; rw [hI0] at e; cases e
    · have hb : b = I := by simpa using hb
      subst hb; rw [hIs] at e; cases e
  obtain ⟨hh0, tk0, rfl⟩ := same
  by_cases hlt : i < items.length
  · refine W.item i _ _ _ hlt st fun v' h' tk hPv st' kk => ?_
    obtain ⟨kn, kp0', kx'⟩ := step h' kk
    obtain ⟨R, hR, hRp⟩ := hit i v' hPv
    have hRm : R ∈ items := List.mem_of_getElem? hR
    refine wpAny_assign_Name ?_
    refine wpAny_mono (turn i R _ v' _ hR (hfl R hRm _ _ _ hRp) (hJ i _ h' tk hj kn kp0') kx' ⟨_, _, rfl⟩) (fun _ s₂ h₂ => wpAny_mono h₂ (fun f s₃ hf => ?_) fun _ _ e => e) fun _ _ e => e
    have fin : (J (i + 1) s₃ ∧ KX mu h' s₃.heap ∧ ∃ h tk, s₃ = { s₀ with heap := h, toks := tk }) →
        ∃ m, m < items.length + 1 - i ∧ ∃ i, m = items.length + 1 - i ∧ i ≤ items.length ∧ J i s₃ ∧ St i s₃.heap ∧ KX mu s.heap s₃.heap ∧ ∃ h tk, s₃ = { s₀ with heap := h, toks := tk } := by
      rintro ⟨a, b, c⟩
      exact ⟨items.length + 1 - (i + 1), by omega, i + 1, rfl, hlt, a, W.frame _ _ _ st' fun p hp o e => b p o (hfm p hp) e, kx'.tr b, c⟩
    cases f with
    | next => exact fin hf
    | cont => exact fin hf
    | brk => exact hf.elim
    | ret u => exact hf
  · have hin : i = items.length := by omega
    subst hin
    refine W.done _ _ _ st fun h' tk kk => wpAny_execs_nil ?_
    obtain ⟨kn, kp0', kx'⟩ := step h' kk
    exact k _ (hJ _ _ h' tk hj kn kp0') kx' ⟨_, _, rfl⟩
end
end Mine
namespace Mine
open PySem PyProof.Rows PySem.Calls

/-- a def of the text, where it stands -/
structure FnAt (mg : Str → Option Value) (h : Heap) (name : Str) (params : Arguments) (body : List Stmt) (scope : Scope) (f : Addr) : Prop where
  g : mg name = some (.ref f)
  x : ∃ o pm code doc, h.get? f = some o ∧ o.data = .func (docDef name params body scope pm code doc) ∧ h.CodeRec code name

theorem bindL_other {kd : Str → Option NameKind} {x : Str} : ∀ {b : List (Str × Value)} {m : Str → Option Value}, (∀ p ∈ b, p.1 ≠ x) → bindL kd b m x = m x
  | [], _, _ => rfl
  | (n, v) :: r, m, h => by
    unfold bindL
    rw [bindL_other fun p hp => h p (List.mem_cons_of_mem _ hp)]
    have hn : n ≠ x := h (n, v) List.mem_cons_self
    split
    · simp [Ne.symm hn]
    · rfl
theorem bindC_other {kd : Str → Option NameKind} {x : Str} : ∀ {b : List (Str × Value)} {m : Str → Option Value}, (∀ p ∈ b, p.1 ≠ x) → bindC kd b m x = m x
  | [], _, _ => rfl
  | (n, v) :: r, m, h => by
    unfold bindC
    rw [bindC_other fun p hp => h p (List.mem_cons_of_mem _ hp)]
    have hn : n ≠ x := h (n, v) List.mem_cons_self
    split
    · rfl
    · simp [Ne.symm hn]
theorem bind_zip {kd : Str → Option NameKind} {h : Heap} : ∀ {names : List Str} {us : List Value} {Ps : List VP} {m cm : Str → Option Value}, names.Nodup → All2 h us Ps → names.length = us.length →
    ∀ {x : Str} {P : VP}, (names.zip Ps).lookup x = some P → ∃ v, P.p h v ∧ (kd x = some .local → bindL kd (names.zip us) m x = some v) ∧ (kd x = some .cell → bindC kd (names.zip us) cm x = some v)
  | [], _, _, _, _, _, _, _, x, P, e => by simp at e
  | n :: names, u :: us, Q :: Ps, m, cm, hnd, ⟨hq, hr⟩, hl, x, P, e => by
    have hnd' := List.nodup_cons.mp hnd
    rw [List.zip_cons_cons, List.lookup_cons] at e
    rw [List.zip_cons_cons]
    by_cases hx : x = n
    · subst hx
      simp at e; subst e
      have ho : ∀ p ∈ names.zip us, p.1 ≠ x := fun p hp e => hnd'.1 (e ▸ (List.of_mem_zip hp).1)
      refine ⟨u, hq, fun hk => ?_, fun hk => ?_⟩
      · unfold bindL; rw [bindL_other ho, if_pos hk]; simp
      · unfold bindC; rw [bindC_other ho, if_neg (by rw [hk]; decide)]; simp
    · have : (x == n) = false := beq_eq_false_iff_ne.mpr hx
      rw [this] at e
      obtain ⟨v, h1, h2, h3⟩ := bind_zip (kd := kd) (m := if kd n = some .local then fun y => if y = n then some u else m y else m) (cm := if kd n = some .local then cm else fun y => if y = n then some u else cm y) hnd'.2 hr (by simpa using hl) e
      exact ⟨v, h1, fun hk => by unfold bindL; exact h2 hk, fun hk => by unfold bindC; exact h3 hk⟩

/-- the names of a scope that are cells have their cells -/
def CellsOk (scope : Scope) : Prop := ∀ L x, scope.names.lookup x = some .cell → ((cellsFrom (L + 1) scope.names []).lookup x).isSome = true

theorem cells_names : ∀ (names : List (Str × NameKind)) (L : Nat) (acc : List (Str × Addr)) (x : Str), (names.lookup x = some .cell ∨ (acc.lookup x).isSome = true) → ((cellsFrom L names acc).lookup x).isSome = true := by
  intro names
  induction names with
  | nil => intro L acc x h; rcases h with h | h; · simp at h
           · simpa [cellsFrom] using h
  | cons p r ih =>
    obtain ⟨n, k⟩ := p
    intro L acc x h
    unfold cellsFrom
    by_cases hk : k = .cell
    · subst hk
      simp only [BEq.rfl, if_true]
      refine ih _ _ _ ?_
      by_cases hx : x = n
      · subst hx; right; simp
      · have hb : (x == n) = false := beq_eq_false_iff_ne.mpr hx
        rcases h with h | h
        · left; rw [List.lookup_cons, hb] at h; exact h
        · right; rw [List.lookup_cons, hb]; exact h
    · have : (k == NameKind.cell) = false := by simpa using hk
      simp only [this, Bool.false_eq_true, if_false]
      refine ih _ _ _ ?_
      rcases h with h | h
      · rw [List.lookup_cons] at h
        by_cases hx : x = n
        · subst hx; simp at h; exact absurd h hk
        · have hb : (x == n) = false := beq_eq_false_iff_ne.mpr hx
          rw [hb] at h; exact .inl h
      · exact .inr h
theorem cellsOk (scope : Scope) : CellsOk scope := fun L x h => cells_names scope.names (L + 1) [] x (.inl h)

section
variable {prog : Program} {w : World} {base : Heap} {A : Around}

/-- the end of a body -/
def Ret (s₀ : Shared) (R : VP) (fl : Flow) (s' : Shared) : Prop := ∃ v h' tk, fl = .ret v ∧ s' = { s₀ with heap := h', toks := tk } ∧ Kp s₀.heap h' ∧ R.p h' v

theorem does_def {mg mb : Str → Option Value} {name : Str} {params : Arguments} {body : List Stmt} {scope : Scope} {f : Addr} {Ps : List VP} {R : VP} (names : List Str)
    (B : Base mg mb base) (hf : FnAt mg base name params body scope f) (hroom : A.depth < recursionLimit)
    (hbind : ∀ pm code doc (us : List Value), us.length = names.length → bindArgs (docDef name params body scope pm code doc) ⟨us, []⟩ = pure (names.zip us))
    (hn : names.length = Ps.length) (hnd : names.Nodup) (hkind : ∀ x ∈ names, scope.names.lookup x = some .local ∨ scope.names.lookup x = some .cell)
    (hsq : ∀ P ∈ Ps, Sq P)
    (walk : ∀ (s₀ s : Shared) (env : Env) (E : Value → Shared → Prop), env.scope = scope → FEnv env → Kp base s₀.heap → Fs s₀ env (names.zip Ps) s →
      wpAny (model prog w) (A.deeper env) (execs body env) (Ret s₀ R) E s)
    (hco : scope.isCoroutine = false := by rfl) (hgen : scope.isGenerator = false := by rfl) (hk : scope.kind = .function := by rfl) : Does prog w base A (.ref f) Ps R := by
  obtain ⟨hg, o, pm, code, doc, ho, hdat, hcd⟩ := hf
  intro s us Q E hb hx k
  have hlen : us.length = names.length := hx.length.trans hn.symm
  refine wpAny_call (codeAny_call_cells (binds := names.zip us) hroom (hb _ _ ho) hdat (B.nolimit.keeps hb) (hcd.keeps hb) rfl (hbind pm code doc us hlen) rfl ?_ ?_ hco hgen hk)
  · intro x hxm
    rcases hkind x.1 (List.of_mem_zip hxm).1 with h | h
    · exact .inl h
    · exact .inr ⟨h, cellsOk scope _ _ h⟩
  · intro s₁ ic
    have hfe : FEnv (callEnvC (docDef name params body scope pm code doc) s.heap.objs.size f) := by
      refine ⟨⟨hk, rfl, rfl⟩, fun x hx => ?_⟩
      have := cellsOk scope s.heap.objs.size x hx
      exact Option.isSome_iff_exists.mp this
    have hF : Fs s (callEnvC (docDef name params body scope pm code doc) s.heap.objs.size f) (names.zip Ps) s₁ := by
      refine ⟨⟨_, _, ic, fun x P e => ?_⟩, fun x P e => ?_⟩
      · obtain ⟨v, h1, h2, h3⟩ := bind_zip (kd := (callEnvC (docDef name params body scope pm code doc) s.heap.objs.size f).kindOf) (m := fun _ => none) (cm := fun _ => none) hnd hx hlen.symm e
        refine ⟨v, ?_, P.up _ _ _ ic.toInCall.keep h1⟩
        have hm : x ∈ names := (List.of_mem_zip (mem_of_lookup e)).1
        unfold slotv
        rcases hkind x hm with h | h
        · have h' : (callEnvC (docDef name params body scope pm code doc) s.heap.objs.size f).kindOf x = some .local := h
          rw [h']; exact h2 h'
        · have h' : (callEnvC (docDef name params body scope pm code doc) s.heap.objs.size f).kindOf x = some .cell := h
          rw [h']; exact h3 h'
      · exact hsq P (List.of_mem_zip (mem_of_lookup e)).2
    refine wpAny_mono (walk s s₁ _ _ rfl hfe hb hF) (fun fl s' hr => ?_) fun _ _ e => e
    obtain ⟨v, h', tk, rfl, rfl, kk, hR⟩ := hr
    exact k v h' tk kk hR

theorem Fs.ret {s₀ s : Shared} {env : Env} {G : List (Str × VP)} {R : VP} {v : Value} {h' : Heap} {tk : Nat} (F : Fs s₀ env G s) (kk : Kp s.heap h') (hR : R.p h' v) : Ret s₀ R (.ret v) { s with heap := h', toks := tk } := by
  obtain ⟨h, t, rfl⟩ := F.same
  exact ⟨v, h', tk, rfl, rfl, F.keep.tr kk, hR⟩

theorem Does.mono {base' : Heap} {f : Value} {Ps : List VP} {R : VP} (d : Does prog w base A f Ps R) (k : Kp base base') : Does prog w base' A f Ps R := fun s us Q E hb => d s us Q E (k.tr hb)

/-- a name or anything else that holds an object which base knows -/
theorem PE.known {env : Env} {G : List (Str × VP)} {e : Expr} {a : Addr} {R : VP} (h : PE prog w base A env G e (vr a)) (hr : R.p base (.ref a)) : PE prog w base A env G e R := by
  intro s Q E hb hv k
  refine h s Q E hb hv fun v h' tk kk r => ?_
  have e1 : v = .ref a := r
  subst e1
  exact k _ h' tk kk (R.up _ _ _ (hb.tr kk) hr)
end
end Mine
namespace Mine
open PySem PyProof.Rows PySem.Calls

theorem kd {env : Env} {sc : Scope} {x : Str} {k : NameKind} (h : env.scope = sc) (hk : sc.names.lookup x = some k) : env.kindOf x = some k := by
  show env.scope.names.lookup x = some k
  rw [h]; exact hk
theorem kdl {env : Env} {sc : Scope} {x : Str} (h : env.scope = sc) (hk : sc.names.lookup x = some .local ∨ sc.names.lookup x = some .cell) : env.kindOf x = some .local ∨ env.kindOf x = some .cell := by
  rcases hk with hk | hk
  · exact .inl (kd h hk)
  · exact .inr (kd h hk)

section
variable {prog : Program} {w : World} {base : Heap} {A : Around} {env : Env} {G : List (Str × VP)}

theorem PE.globi {mg mb : Str → Option Value} {x : Str} {pos : Pos} {i : Int} {sc : Scope} (he : env.scope = sc) (ok : EnvOk env) (B : Base mg mb base) (hv : ∃ t, mg x = some (.int i t)) (hx : sc.names.lookup x = some .globalImplicit)
    (hd : (x == ("__debug__" : Str)) = false) : PE prog w base A env G (.Name x pos) (vi i) := by
  obtain ⟨t, hv⟩ := hv
  exact (PE.glob ok B (kd he hx) hv hd).weaken fun _ v e => ⟨t, e⟩

theorem do_min {a b : Int} (hh : A.handled = none) : Does prog w base A (.builtin "min") [vi a, vi b] (vi (min a b)) := by
  intro s us Q E hb x k
  match us, x with
  | [_, _], ⟨⟨t, rfl⟩, ⟨u, rfl⟩, _⟩ =>
    refine min_two_ints hh fun h' tk hk => ?_
    refine k _ h' tk hk ?_
    by_cases hc : b < a
    · rw [if_pos hc]; exact ⟨u, by rw [Int.min_eq_right (Int.le_of_lt hc)]⟩
    · rw [if_neg hc]; exact ⟨t, by rw [Int.min_eq_left (by omega)]⟩

theorem PE.lower {o : Expr} {apos pos : Pos} {l : List Nat} (ho : PE prog w base A env G o (vs (S l))) (ha : ∀ c ∈ l, c < 128) (hz : l.length ≤ 1000)
    (hbase : attributeBase o "lower" env (eval o env) = eval o env) (hline : (apos.endLine == pos.line) = true) :
    PE prog w base A env G (.Call (.Attribute o "lower" apos) [] [] pos) (vs (S (l.map lo1))) := by
  intro s Q E hb hv k
  refine Call_method0 hbase hline (ho s _ E hb hv fun v h1 t1 k1 p1 => ?_)
  obtain ⟨t, rfl⟩ := p1
  refine SBL.lower (by rw [S_len]; omega) fun _ => ?_
  rw [lower_ascii (x := S l) (by simpa [S] using ha)]
  have : (⟨(S l).cps.map lo1⟩ : Str) = S (l.map lo1) := by simp [S]
  rw [this]
  exact k _ h1 _ k1 ⟨_, rfl⟩
theorem PE.upper {o : Expr} {apos pos : Pos} {l : List Nat} (ho : PE prog w base A env G o (vs (S l))) (ha : ∀ c ∈ l, c < 128) (hz : l.length ≤ 1000)
    (hbase : attributeBase o "upper" env (eval o env) = eval o env) (hline : (apos.endLine == pos.line) = true) :
    PE prog w base A env G (.Call (.Attribute o "upper" apos) [] [] pos) (vs (S (l.map up1))) := by
  intro s Q E hb hv k
  refine Call_method0 hbase hline (ho s _ E hb hv fun v h1 t1 k1 p1 => ?_)
  obtain ⟨t, rfl⟩ := p1
  refine SBL.upper (by rw [S_len]; omega) fun _ => ?_
  rw [upper_ascii (x := S l) (by simpa [S] using ha)]
  have : (⟨(S l).cps.map up1⟩ : Str) = S (l.map up1) := by simp [S]
  rw [this]
  exact k _ h1 _ k1 ⟨_, rfl⟩
end

section
variable {prog : Program} {w : World} {base : Heap} {A : Around} {E : Value → Shared → Prop} {s₀ s : Shared} {env : Env} {G : List (Str × VP)}

theorem ex_set {o i value : Expr} {pos' pos : Pos} {rest : List Stmt} {P : VP} {r : Addr} {k : Int} {us : List Value} {Q : Flow → Shared → Prop} (fe : FEnv env) (hb : Kp base s.heap) (F : Fs s₀ env G s)
    (hf : ∀ x P, G.lookup x = some P → Flat P) (hs : swapsWith value (some (.Subscript o i pos')) pos.line env = pure false) (hfP : Flat P) (he : PE prog w base A env G value P)
    (ho : PE prog w base A env G o (vr r)) (hi : PE prog w base A env G i (vi k)) (hl : s.heap.IsList r us.toArray) (hr : s₀.heap.get? r = none) (h0 : 0 ≤ k) (hfit : k < 2 ^ 63) (hlen : k < us.length)
    (kk : ∀ v h' tk, KX [r] s.heap h' → P.p h' v → h'.IsList r (us.set k.toNat v).toArray → Fs s₀ env G { s with heap := h', toks := tk } → wpAny (model prog w) A (execs rest env) Q E { s with heap := h', toks := tk }) :
    wpAny (model prog w) A (execs (.Assign [.Subscript o i pos'] value pos :: rest) env) Q E s := by
  refine wpAny_execs_cons (wpAny_Assign_Subscript (he s _ E hb (F.vars fe) fun v h1 t1 k1 p1 => ?_) hs)
  refine ho _ _ E (hb.tr k1) ((F.vars fe).up k1) fun ov h2 t2 k2 p2 => ?_
  refine hi _ _ E (hb.tr (k1.tr k2)) ((F.vars fe).up (k1.tr k2)) fun iv h3 t3 k3 p3 => ?_
  have e2 : ov = .ref r := p2
  subst e2
  obtain ⟨t, rfl⟩ := p3
  have k4 := k1.tr (k2.tr k3)
  have F3 := F.up (tk := t3) k4
  have hl3 : h3.IsList r us.toArray := isList_ks k4.ks hl
  refine wpAny_setItem_list hl3 h0 hfit (by simpa using hlen) fun h' hl' hs' => ?_
  have hset : us.toArray.setIfInBounds k.toNat v = (us.set k.toNat v).toArray := by simp
  rw [hset] at hl'
  obtain ⟨ol, hol, _, nn, hod⟩ := id hl3
  have F4 := F3.mutd (tk := t3) hf hs' hr ⟨ol, hol, by simp [isSeq, hod]⟩
  exact kk v h' t3 (fun b o hb e => (hs'.2 b (fun q => hb (q ▸ List.mem_cons_self))).trans (k4 b o e)) (hfP _ _ _ p1) hl' F4

theorem Fs.fa_fresh (F : Fs s₀ env G s) : ∀ b ∈ fa env, s₀.heap.get? b = none := by
  obtain ⟨m, cm, ic, hv⟩ := F.ic
  have big : ∀ b, s₀.heap.objs.size ≤ b → s₀.heap.get? b = none := fun b hb => by
    cases e : s₀.heap.get? b with
    | none => rfl
    | some o => exact absurd (Heap.lt_size e) (Nat.not_lt.mpr hb)
  intro b hb
  unfold fa at hb
  rcases List.mem_cons.mp hb with rfl | hb
  · exact big _ ic.toInCall.fresh
  · obtain ⟨p, hp, e⟩ := List.mem_filterMap.mp hb
    exact big _ (Nat.le_trans ic.toInCall.fresh (Nat.le_of_lt (ic.above p.1 b (mem_of_lookup e))))
theorem Fs.fa_some (F : Fs s₀ env G s) : ∀ b ∈ fa env, ∃ o, s.heap.get? b = some o ∧ isSeq o = false := by
  obtain ⟨m, cm, ic, hv⟩ := F.ic
  intro b hb
  unfold fa at hb
  rcases List.mem_cons.mp hb with rfl | hb
  · obtain ⟨o, es, ep, h1, h2, _⟩ := ic.toInCall.ns
    exact ⟨o, h1, by simp [isSeq, h2]⟩
  · obtain ⟨p, hp, e⟩ := List.mem_filterMap.mp hb
    obtain ⟨o, h1, h2⟩ := ic.cell p.1 b e
    exact ⟨o, h1, by simp [isSeq, h2]⟩
theorem Fs.not_fa (F : Fs s₀ env G s) {r : Addr} {us : Array Value} (hl : s.heap.IsList r us) : r ∉ fa env := by
  intro h
  obtain ⟨o, h1, h2⟩ := F.fa_some r h
  obtain ⟨o', h3, _, n, h4⟩ := hl
  rw [h1] at h3; cases h3
  simp [isSeq, h4] at h2
theorem isList_kx {mu : List Addr} {h h' : Heap} {r : Addr} {us : Array Value} (k : KX mu h h') (hr : r ∉ mu) (hl : h.IsList r us) : h'.IsList r us := by
  obtain ⟨o, h1, h2⟩ := hl
  exact ⟨o, k r o hr h1, h2⟩

/-- a for as its invariant: for a body that returns early too -/
theorem It.of_range {a b c : Int} {n : Nat} {mu : List Addr} (hh : A.handled = none) (hsmall : Builtin.Range.small a b c = true) (hn : Builtin.Range.rangeSize a b c = n) :
    ∀ h' v, (vrg a b c).p h' v → It prog w A mu ((rgi a c n).map vi) h' v := fun _ _ hv => it_range hh hv hsmall hn
end
end Mine
namespace Mine
open PySem PyProof.Rows PySem.Calls

/-- what _substitution_cost tells -/
def sc (a b : Nat) : Int := if a = b then 0 else if lo1 a = lo1 b then 1 else 2

def stripP : List Nat → List Nat → List Nat × List Nat
  | x :: a, y :: b => if x = y then stripP a b else (x :: a, y :: b)
  | a, b => (a, b)
def strip (a b : List Nat) : List Nat × List Nat :=
  ((stripP (stripP a b).1.reverse (stripP a b).2.reverse).1.reverse, (stripP (stripP a b).1.reverse (stripP a b).2.reverse).2.reverse)

def inner (bc : Nat) : List Nat → List Int → Int → Int → Int → List Int × Int × Int
  | c :: a, r :: row, d, res, mn =>
    let r' := min (min res r + 2) (d + sc bc c)
    let z := inner bc a row r r' (if r' < mn then r' else mn)
    (r' :: z.1, z.2.1, z.2.2)
  | _, row, _, res, mn => (row, res, mn)
def big : Int := 9223372036854775807
def outer (a : List Nat) (m : Int) : List Nat → Int → List Int → Int → Int
  | [], _, _, res => res
  | c :: b, i, row, _ =>
    let z := inner c a row (i * 2) (i * 2) big
    if m < z.2.2 then m + 1 else outer a m b (i + 1) z.1 z.2.1
def core (a b : List Nat) (m : Int) : Int :=
  if m < ((b.length : Int) - a.length) * 2 then m + 1 else outer a m b 0 (rgi 2 2 a.length) 0
def lev (a b : List Nat) (m : Int) : Int :=
  if a = b then 0 else
  if (strip a b).1 = [] ∨ (strip a b).2 = [] then 2 * (((strip a b).1.length : Int) + (strip a b).2.length)
  else if (strip a b).2.length < (strip a b).1.length then core (strip a b).2 (strip a b).1 m else core (strip a b).1 (strip a b).2 m

theorem stripP_le : ∀ a b : List Nat, (stripP a b).1.length ≤ a.length ∧ (stripP a b).2.length ≤ b.length
  | x :: a, y :: b => by
    unfold stripP
    split
    · have := stripP_le a b; simp; omega
    · simp
  | [], b => by cases b <;> simp [stripP]
  | _ :: _, [] => by simp [stripP]
theorem strip_le (a b : List Nat) : (strip a b).1.length ≤ a.length ∧ (strip a b).2.length ≤ b.length := by
  have h1 := stripP_le a b
  have h2 := stripP_le (stripP a b).1.reverse (stripP a b).2.reverse
  simp only [strip, List.length_reverse] at h2 ⊢
  omega
theorem stripP_mem : ∀ a b : List Nat, (∀ c ∈ (stripP a b).1, c ∈ a) ∧ (∀ c ∈ (stripP a b).2, c ∈ b)
  | x :: a, y :: b => by
    unfold stripP
    split
    · have := stripP_mem a b
      exact ⟨fun c h => List.mem_cons_of_mem _ (this.1 c h), fun c h => List.mem_cons_of_mem _ (this.2 c h)⟩
    · exact ⟨fun _ h => h, fun _ h => h⟩
  | [], b => by cases b <;> simp [stripP]
  | _ :: _, [] => by simp [stripP]
theorem strip_mem (a b : List Nat) : (∀ c ∈ (strip a b).1, c ∈ a) ∧ (∀ c ∈ (strip a b).2, c ∈ b) := by
  have h1 := stripP_mem a b
  have h2 := stripP_mem (stripP a b).1.reverse (stripP a b).2.reverse
  simp only [strip, List.mem_reverse] at h2 ⊢
  exact ⟨fun c h => h1.1 c (h2.1 c h), fun c h => h1.2 c (h2.2 c h)⟩

/-! the steps of the two loops that strip -/
theorem stripP_step {a b : List Nat} {p : Nat} (ha : p < a.length) (hb : p < b.length) (e : a[p]? = b[p]?) : stripP (a.drop p) (b.drop p) = stripP (a.drop (p + 1)) (b.drop (p + 1)) := by
  rw [List.drop_eq_getElem_cons ha, List.drop_eq_getElem_cons hb]
  rw [List.getElem?_eq_getElem ha, List.getElem?_eq_getElem hb] at e
  simp only [Option.some.injEq] at e
  conv => lhs; unfold stripP
  rw [if_pos e]
theorem stripP_stop {a b : List Nat} {p : Nat} (h : a.length ≤ p ∨ b.length ≤ p ∨ a[p]? ≠ b[p]?) : stripP (a.drop p) (b.drop p) = (a.drop p, b.drop p) := by
  by_cases ha : p < a.length
  · by_cases hb : p < b.length
    · rw [List.drop_eq_getElem_cons ha, List.drop_eq_getElem_cons hb]
      have : a[p] ≠ b[p] := by
        rcases h with h | h | h
        · omega
        · omega
        · rw [List.getElem?_eq_getElem ha, List.getElem?_eq_getElem hb] at h
          simpa using h
      unfold stripP
      rw [if_neg this]
    · rw [List.drop_eq_nil_of_le (by omega : b.length ≤ p)]
      cases a.drop p <;> simp [stripP]
  · rw [List.drop_eq_nil_of_le (by omega : a.length ≤ p)]
    cases b.drop p <;> simp [stripP]

/-! cuts -/
theorem cut_from (l : List Nat) {p : Nat} (h : p ≤ l.length) : cut l (some (p : Int)) none = l.drop p := by
  have e : clipN l.length (some (p : Int)) 0 = p := by unfold clipN; simp only; rw [if_neg (by omega)]; omega
  unfold cut
  rw [e]
  exact List.take_of_length_le (by simp [clipN])
theorem cut_all (l : List Nat) : cut l none none = l := by simp [cut, clipN]
theorem cut_back (l : List Nat) {q : Nat} (h : q ≤ l.length) (h0 : 0 < q) : cut l none (some (-(q : Int))) = (l.reverse.drop q).reverse := by
  have e : clipN l.length (some (-(q : Int))) l.length = l.length - q := by unfold clipN; simp only; rw [if_pos (by omega)]; omega
  unfold cut
  rw [e]
  simp [clipN, List.drop_reverse]
end Mine
namespace Mine
open PySem PyProof.Rows PySem.Calls

abbrev pw : Program := PySem.Challenge.pw_mj0341_01
def fbody (i : Nat) : List Stmt := match pw.main.body[i]? with | some (.FunctionDef _ _ b _ _ _ _ _ _ _) => b | _ => []
def fargs (i : Nat) : Arguments := match pw.main.body[i]? with | some (.FunctionDef _ a _ _ _ _ _ _ _ _) => a | _ => ⟨[], [], none, [], [], none, []⟩
def fscope (i : Nat) : Scope := match pw.main.body[i]? with | some (.FunctionDef _ _ _ _ _ _ s _ _ _) => s | _ => pw.main.scope

structure OkA (A : Around) (n : Nat) : Prop where
  h : A.handled = none
  d : A.depth < n
theorem OkA.deeper {A : Around} {n : Nat} (h : OkA A n) (env : Env) : OkA (A.deeper env) (n + 1) := ⟨h.h, Nat.succ_lt_succ h.d⟩
theorem OkA.room {A : Around} {n : Nat} (h : OkA A n) (hn : n ≤ 1000) : A.depth < recursionLimit := Nat.lt_of_lt_of_le h.d hn

/-- what the top leaves, for the first part of the text -/
structure W0 (mg mb : Str → Option Value) (base : Heap) : Prop where
  B : Base mg mb base
  mc : ∃ t, mg "_MOVE_COST" = some (.int 2 t)
  cc : ∃ t, mg "_CASE_COST" = some (.int 1 t)
  ms : ∃ t, mg "_MAX_STRING_SIZE" = some (.int 40 t)
  fsub : ∃ f, FnAt mg base "_substitution_cost" (fargs 4) (fbody 4) (fscope 4) f
  flev : ∃ f, FnAt mg base "_levenshtein_distance" (fargs 5) (fbody 5) (fscope 5) f
  nlen : mg "len" = none
  nmin : mg "min" = none
  nrange : mg "range" = none
  nlist : mg "list" = none
theorem FnAt.mono {mg : Str → Option Value} {h h' : Heap} {name : Str} {params : Arguments} {body : List Stmt} {scope : Scope} {f : Addr} (x : FnAt mg h name params body scope f) (k : Kp h h') : FnAt mg h' name params body scope f := by
  obtain ⟨g, o, pm, code, doc, h1, h2, h3⟩ := x
  exact ⟨g, o, pm, code, doc, k _ _ h1, h2, h3.keeps k⟩
theorem Base.mono {mg mb : Str → Option Value} {h h' : Heap} (x : Base mg mb h) (k : Kp h h') : Base mg mb h' := ⟨x.g.keeps k, x.b.keeps k, x.nolimit.keeps k, x.bb⟩
theorem W0.mono {mg mb : Str → Option Value} {h h' : Heap} (x : W0 mg mb h) (k : Kp h h') : W0 mg mb h' :=
  ⟨x.B.mono k, x.mc, x.cc, x.ms, let ⟨f, y⟩ := x.fsub; ⟨f, y.mono k⟩, let ⟨f, y⟩ := x.flev; ⟨f, y.mono k⟩, x.nlen, x.nmin, x.nrange, x.nlist⟩

section
variable {prog : Program} {w : World} {base : Heap} {A : Around} {env : Env} {G : List (Str × VP)} {mg mb : Str → Option Value} {sc' : Scope}

/-- a call of a def of the text -/
theorem PE.callD {name : Str} {p pos : Pos} {e : Expr} {rest : List Expr} {params : Arguments} {body : List Stmt} {scope : Scope} {f : Addr} {Ps : List VP} {R : VP} (he : env.scope = sc') (ok : EnvOk env) (B : Base mg mb base)
    (hf : FnAt mg base name params body scope f) (hx : sc'.names.lookup name = some .globalImplicit) (hd : (name == ("__debug__" : Str)) = false)
    (ha : PA prog w base A env G pos (e :: rest) Ps) (hs : starEach (e :: rest) env = (false, eval e env) :: starEach rest env) (hdo : Does prog w base A (.ref f) Ps R) :
    PE prog w base A env G (.Call (.Name name p) (e :: rest) [] pos) R := by
  obtain ⟨hg, o, pm, code, doc, ho, hdat, hcd⟩ := hf
  exact PE.callF ho hdat (PE.glob ok B (kd he hx) hg hd) ha hs hdo

theorem PE.bcall {x : Str} {p pos : Pos} {e : Expr} {rest : List Expr} {id : String} {Ps : List VP} {R : VP} (he : env.scope = sc') (ok : EnvOk env) (B : Base mg mb base) (hg : mg x = none) (hv : bootBuiltins x = some (.builtin id))
    (hx : sc'.names.lookup x = some .globalImplicit) (hn : x ≠ "__name__") (hd : (x == ("__debug__" : Str)) = false) (hdo : Does prog w base A (.builtin id) Ps R)
    (ha : PA prog w base A env G pos (e :: rest) Ps) (hs : starEach (e :: rest) env = (false, eval e env) :: starEach rest env) :
    PE prog w base A env G (.Call (.Name x p) (e :: rest) [] pos) R := PE.callB (PE.built ok B (kd he hx) hg hv hn hd) ha hs hdo
theorem PE.tcall {x : Str} {p pos : Pos} {e : Expr} {rest : List Expr} {id : String} {Ps : List VP} {R : VP} (he : env.scope = sc') (ok : EnvOk env) (B : Base mg mb base) (hg : mg x = none) (hv : bootBuiltins x = some (.type id))
    (hx : sc'.names.lookup x = some .globalImplicit) (hn : x ≠ "__name__") (hd : (x == ("__debug__" : Str)) = false) (hdo : Does prog w base A (.type id) Ps R)
    (ha : PA prog w base A env G pos (e :: rest) Ps) (hs : starEach (e :: rest) env = (false, eval e env) :: starEach rest env) :
    PE prog w base A env G (.Call (.Name x p) (e :: rest) [] pos) R := PE.callT (PE.built ok B (kd he hx) hg hv hn hd) ha hs hdo
/-- len(text) -/
theorem PE.len_s {p pos : Pos} {e : Expr} {l : List Nat} (he : env.scope = sc') (ok : EnvOk env) (B : Base mg mb base) (hg : mg "len" = none) (hz : l.length < 2 ^ 62)
    (hx : sc'.names.lookup ("len" : Str) = some .globalImplicit) (h : PE prog w base A env G e (vs (S l))) (hs : starEach [e] env = (false, eval e env) :: starEach [] env) :
    PE prog w base A env G (.Call (.Name "len" p) [e] [] pos) (vi l.length) :=
  PE.bcall he ok B hg rfl hx (by decide) rfl (do_len_s hz) (PA.cons h PA.nil hs) hs
end

section
variable {prog : Program} {w : World} {base : Heap} {A : Around} {mg mb : Str → Option Value}

theorem sq_flat2 {P Q : VP} (h1 : Flat P) (h2 : Flat Q) : ∀ X ∈ [P, Q], Sq X := by
  intro X hX; simp at hX; rcases hX with rfl | rfl
  · exact h1.sq
  · exact h2.sq

theorem c_sub (W : W0 mg mb base) (hA : OkA A 990) {f : Addr} (hf : FnAt mg base "_substitution_cost" (fargs 4) (fbody 4) (fscope 4) f) {a b : Nat} (ha : a < 128) (hb : b < 128) :
    Does prog w base A (.ref f) [vs (S [a]), vs (S [b])] (vi (sc a b)) := by
  refine does_def ["ch_a", "ch_b"] W.B hf (hA.room (by decide)) ?_ rfl (by decide) (by decide) (sq_flat2 (flat_vs _) (flat_vs _)) ?_
  · intro pm code doc us h
    rcases us with _ | ⟨x, _ | ⟨y, _ | ⟨z, us⟩⟩⟩ <;> simp at h
    rfl
  intro s₀ s env E he fe hb0 F
  have ok := fe.toEnvOk
  refine ex_if1 (base := base) fe (hb0.tr F.keep) F (PT.cmp (PE.name ok rfl rfl) (PE.name ok rfl rfl) oc_eqs rfl) ?_ ?_
  · intro hc h1 t1 k1 F1
    refine ex_ret (base := base) fe (hb0.tr F1.keep) F1 PE.cint fun v h2 t2 k2 p => F1.ret k2 ?_
    have : a = b := by simpa using hc
    subst this
    simpa [sc] using p
  intro hc h1 t1 k1 F1
  have hab : a ≠ b := by simpa using hc
  refine ex_if1 (base := base) fe (hb0.tr F1.keep) F1 (PT.cmp (PE.lower (PE.name ok rfl rfl) (by simpa using ha) (by simp) rfl rfl) (PE.lower (PE.name ok rfl rfl) (by simpa using hb) (by simp) rfl rfl) oc_eqs rfl) ?_ ?_
  · intro hc' h2 t2 k2 F2
    refine ex_ret (base := base) fe (hb0.tr F2.keep) F2 (PE.globi he ok W.B W.cc rfl rfl) fun v h3 t3 k3 p => F2.ret k3 ?_
    have e1 : lo1 a = lo1 b := by simpa using hc'
    simpa [sc, hab, e1] using p
  · intro hc' h2 t2 k2 F2
    refine ex_ret (base := base) fe (hb0.tr F2.keep) F2 (PE.globi he ok W.B W.mc rfl rfl) fun v h3 t3 k3 p => F2.ret k3 ?_
    have e1 : ¬ lo1 a = lo1 b := by simpa using hc'
    simpa [sc, hab, e1] using p
end
end Mine
namespace Mine
open PySem PyProof.Rows PySem.Calls

theorem rsize01 (n : Nat) : Builtin.Range.rangeSize 0 (n : Int) 1 = (n : Nat) := by
  unfold Builtin.Range.rangeSize
  simp
  omega
theorem small01 {n : Nat} (h : n ≤ 1000000) : Builtin.Range.small 0 (n : Int) 1 = true := by
  unfold Builtin.Range.small
  rw [rsize01]
  simp [Builtin.Range.rangeFitsLong]
  omega
theorem flatG {G : List (Str × VP)} (h : ∀ p ∈ G, Flat p.2) : ∀ x P, G.lookup x = some P → Flat P := fun x P e => h (x, P) (mem_of_lookup e)

section
variable {prog : Program} {w : World} {base : Heap} {A : Around} {mg mb : Str → Option Value} {E : Value → Shared → Prop} {s₀ s : Shared} {env : Env}

theorem inner_drop {bc : Nat} {a : List Nat} {row : List Int} {d res mn : Int} {i : Nat} (hi : i < a.length) {r : Int} {rest : List Int} (hr : row = r :: rest) :
    inner bc (a.drop i) row d res mn =
      let r' := min (min res r + 2) (d + sc bc a[i])
      let z := inner bc (a.drop (i + 1)) rest r r' (if r' < mn then r' else mn)
      (r' :: z.1, z.2.1, z.2.2) := by
  subst hr
  rw [List.drop_eq_getElem_cons hi]
  rfl

def forBody (s : Option Stmt) : List Stmt := match s with | some (.For _ _ b _ _) => b | _ => []
abbrev bodyIn : List Stmt := forBody (fbody 5)[15]?

def SubOk : List (Str × VP) → List (Str × VP) → Prop
  | [], _ => True
  | (x, P) :: r, G => G.lookup x = some P ∧ SubOk r G
theorem SubOk.get : ∀ {G' G : List (Str × VP)}, SubOk G' G → ∀ x P, G'.lookup x = some P → G.lookup x = some P
  | [], _, _, _, _, e => by simp at e
  | (y, Q) :: r, G, ⟨h, t⟩, x, P, e => by
    rcases lookup_cons_cases e with ⟨rfl, rfl⟩ | ⟨_, e⟩
    · exact h
    · exact SubOk.get t x P e
theorem Fs.sl {G G' : List (Str × VP)} (F : Fs s₀ env G s) (h : SubOk G' G) : Fs s₀ env G' s := F.sub (SubOk.get h)
theorem all2_vi {h h' : Heap} {us : List Value} {l : List Int} (x : All2 h us (l.map vi)) : All2 h' us (l.map vi) := by
  induction l generalizing us with
  | nil => cases us with
    | nil => trivial
    | cons _ _ => exact x.elim
  | cons a r ih => cases us with
    | nil => exact x.elim
    | cons _ _ => exact ⟨x.1, ih x.2⟩
theorem all2_set {h : Heap} {us : List Value} {l : List Int} {v : Value} {y : Int} (x : All2 h us (l.map vi)) (hv : (vi y).p h v) (i : Nat) : All2 h (us.set i v) ((l.set i y).map vi) := by
  induction l generalizing us i with
  | nil => cases us with
    | nil => trivial
    | cons _ _ => exact x.elim
  | cons a r ih => cases us with
    | nil => exact x.elim
    | cons u us => cases i with
      | zero => exact ⟨hv, x.2⟩
      | succ i => exact ⟨x.1, ih x.2 i⟩
theorem rgi01_get {n i : Nat} {R : VP} (h : ((rgi 0 1 n).map vi)[i]? = some R) : i < n ∧ R = vi i := by
  have hl := (List.getElem?_eq_some_iff.mp h).1
  simp [rgi] at hl
  simp [rgi, hl] at h
  exact ⟨hl, h.symm⟩
theorem OkA.mono {A : Around} {n k : Nat} (h : OkA A n) (hk : n ≤ k) : OkA A k := ⟨h.h, Nat.lt_of_lt_of_le h.d hk⟩
theorem seqIx {n i : Nat} (h : i < n) : seqIndex? (i : Int) n = some i := by
  unfold seqIndex?
  have h1 : ¬ ((i : Int) < 0) := by omega
  simp [h1, h]

/-- the inner loop -/
theorem lev_in (W : W0 mg mb base) (hA : OkA A 989) (he : env.scope = fscope 5) (fe : FEnv env) {a : List Nat} {bc : Nat} {m bi : Int} {b : List Nat} {r : Addr} {us : List Value} {row : List Int} {Q : Flow → Shared → Prop}
    (ha : ∀ c ∈ a, c < 128) (hbc : bc < 128) (hal : a.length ≤ 40) (hrow : row.length = a.length) (hb : Kp base s₀.heap) (hr : s₀.heap.get? r = none) {d0 : Int}
    (F : Fs s₀ env [("minimum", vi big), ("result", vi d0), ("distance", vi d0), ("bchar", vs (S [bc])), ("bindex", vi bi), ("a", vs (S a)), ("b", vs (S b)), ("max_cost", vi m), ("row", vr r)] s)
    (hl : s.heap.IsList r us.toArray) (hx : All2 s.heap us (row.map vi))
    (k : ∀ s' us', Fs s₀ env [("minimum", vi (inner bc a row d0 d0 big).2.2), ("result", vi (inner bc a row d0 d0 big).2.1), ("a", vs (S a)), ("b", vs (S b)), ("max_cost", vi m), ("row", vr r)] s' →
      s'.heap.IsList r us'.toArray → All2 s'.heap us' ((inner bc a row d0 d0 big).1.map vi) → KX (r :: fa env) s.heap s'.heap →
      wpAny (model prog w) A (execs (bodyIn.drop 4) env) Q E s') :
    wpAny (model prog w) A (execs (bodyIn.drop 3) env) Q E s := by
  have ok := fe.toEnvOk
  have hrf : r ∉ fa env := F.not_fa hl
  refine ex_for (base := base) fe (hb.tr F.keep) F (r :: fa env) ((rgi 0 1 a.length).map vi)
    (PE.tcall he ok W.B W.nrange rfl rfl (by decide) rfl do_range1 (PA.cons (PE.len_s he ok W.B W.nlen (by omega) rfl (PE.name ok rfl rfl) rfl) PA.nil rfl) rfl)
    (fun h' v _ hv => it_range hA.h hv (small01 (by omega)) (rsize01 _)) ?_ ?_ ?_
    (fun i s' => i ≤ a.length ∧ ∃ (d res mn : Int) (done todo : List Int) (us' : List Value), done.length = i ∧ todo.length = a.length - i ∧
      inner bc a row d0 d0 big = (done ++ (inner bc (a.drop i) todo d res mn).1, (inner bc (a.drop i) todo d res mn).2.1, (inner bc (a.drop i) todo d res mn).2.2) ∧
      s'.heap.IsList r us'.toArray ∧ All2 s'.heap us' ((done ++ todo).map vi) ∧
      Fs s₀ env [("minimum", vi mn), ("result", vi res), ("distance", vi d), ("bchar", vs (S [bc])), ("a", vs (S a)), ("b", vs (S b)), ("max_cost", vi m), ("row", vr r)] s')
    ?_ ?_ ?_ ?_ (by intro x; rfl)
  · intro R hR
    obtain ⟨i, _, rfl⟩ := List.mem_map.mp hR
    exact flat_vi i
  · intro b hbm
    rcases List.mem_cons.mp hbm with rfl | hbm
    · obtain ⟨o, h1, _⟩ := hl; exact ⟨o, h1⟩
    · obtain ⟨o, h1, _⟩ := F.fa_some b hbm; exact ⟨o, h1⟩
  · intro b hbm
    rcases List.mem_cons.mp hbm with rfl | hbm
    · exact hr
    · exact F.fa_fresh b hbm
  · intro h' tk kp F'
    refine ⟨Nat.zero_le _, d0, d0, big, [], row, us, rfl, by simpa using hrow, by simp, isList_ks kp.ks hl, hx.up kp, F'.sl ⟨rfl, rfl, rfl, rfl, rfl, rfl, rfl, rfl, trivial⟩⟩
  · rintro i s' h' tk ⟨hi, d, res, mn, done, todo, us', e1, e2, e3, hl', hx', F'⟩ kn k0
    exact ⟨hi, d, res, mn, done, todo, us', e1, e2, e3, isList_ks kn.ks hl', all2_vi hx', F'.kn kn k0⟩
  · rintro i R s' v E' hR hRv ⟨hi, d, res, mn, done, todo, us', e1, e2, e3, hl', hx', F'⟩ kx hsame
    obtain ⟨hlt, rfl⟩ := rgi01_get hR
    obtain ⟨r0, todo', rfl⟩ : ∃ r0 t, todo = r0 :: t := by
      cases todo with
      | nil => simp at e2; omega
      | cons x t => exact ⟨x, t, rfl⟩
    rw [inner_drop hlt rfl] at e3
    refine store_ fe F' (kdl he (.inl rfl)) hRv (flat_vi _).sq fun h1 t1 k1 F1 => ?_
    have hl1 := isList_ks k1.ks hl'
    obtain ⟨f, hf⟩ := W.fsub
    have hai : a[i]? = some a[i] := List.getElem?_eq_getElem hlt
    have hci : a[i] < 128 := ha _ (List.getElem_mem hlt)
    refine ex_assign (base := base) fe (hb.tr F1.keep) F1 (kdl he (.inl rfl)) rfl (flat_vi _).sq
      (PE.bin (PE.name ok rfl rfl) (PE.callD he ok W.B hf rfl rfl (PA.cons (PE.name ok rfl rfl) (PA.cons (PE.item_s (l := a) (i := (i : Int)) (c := a[i]) (PE.name ok rfl rfl) (PE.name ok rfl rfl) (by omega) (by rw [seqIx hlt]; simp) (by intro _ _; rfl)) PA.nil rfl) rfl) rfl (c_sub W (hA.mono (by decide)) hf hbc hci)) ob_add) ?_
    intro h2 t2 k2 F2
    have hl2 := isList_ks k2.ks hl1
    have W2 := W.mono (hb.tr F2.keep)
    refine ex_assign (base := h2) fe Kp.rf F2 (kdl he (.inl rfl)) rfl (flat_vi _).sq
      (PE.item_l (R := vi r0) (Ps := (done ++ r0 :: todo').map vi) (PE.known (PE.name ok rfl rfl) ⟨r, us', rfl, hl2, all2_vi hx'⟩) (PE.name ok rfl rfl) (by omega) (by omega) (by simp [← e1]) (by intro _ _; rfl)) ?_
    intro h3 t3 k3 F3
    have hl3 := isList_ks k3.ks hl2
    refine ex_assign (base := base) fe (hb.tr F3.keep) F3 (kdl he (.inl rfl)) rfl (flat_vi _).sq
      (PE.bin (PE.bcall he ok W.B W.nmin rfl rfl (by decide) rfl (do_min hA.h) (PA.cons (PE.name ok rfl rfl) (PA.cons (PE.name ok rfl rfl) PA.nil rfl) rfl) rfl) (PE.globi he ok W.B W.mc rfl rfl) ob_add) ?_
    intro h4 t4 k4 F4
    have hl4 := isList_ks k4.ks hl3
    refine ex_assign (base := base) fe (hb.tr F4.keep) F4 (kdl he (.inl rfl)) rfl (flat_vi _).sq
      (PE.bcall he ok W.B W.nmin rfl rfl (by decide) rfl (do_min hA.h) (PA.cons (PE.name ok rfl rfl) (PA.cons (PE.name ok rfl rfl) PA.nil rfl) rfl) rfl) ?_
    intro h5 t5 k5 F5
    have hl5 := isList_ks k5.ks hl4
    have hul : us'.length = a.length := by
      have := hx'.length
      simp at this e2
      omega
    refine ex_set (base := base) fe (hb.tr F5.keep) F5 (flatG ?_) rfl (flat_vi _) (PE.name ok rfl rfl) (PE.name ok rfl rfl) (PE.name ok rfl rfl) hl5 hr (by omega) (by omega) (by omega) ?_
    · intro p hp
      simp only [List.mem_cons, List.not_mem_nil, or_false] at hp
      rcases hp with rfl | rfl | rfl | rfl | rfl | rfl | rfl | rfl | rfl | rfl | rfl | rfl | rfl <;> first | exact flat_vi _ | exact flat_vs _ | exact flat_vr _
    intro v6 h6 t6 k6 p6 hl6 F6
    have hx6 := all2_set (all2_vi (h' := h6) hx') p6 i
    have kx6 : KX (r :: fa env) s'.heap h6 := by
      refine (k1.kx.tr (k2.kx.tr (k3.kx.tr (k4.kx.tr k5.kx)))).mono (fun p hp => List.mem_cons_of_mem _ hp) |>.tr (k6.mono fun p hp => ?_)
      simp at hp; subst hp; exact List.mem_cons_self
    have hset : (done ++ r0 :: todo').set i (min (min res r0 + 2) (d + sc bc a[i])) = (done ++ [min (min res r0 + 2) (d + sc bc a[i])]) ++ todo' := by
      subst e1; simp
    rw [Int.toNat_natCast] at hl6
    rw [hset] at hx6
    have fin : ∀ (mn' : Int) (s7 : Shared), mn' = (if min (min res r0 + 2) (d + sc bc a[i]) < mn then min (min res r0 + 2) (d + sc bc a[i]) else mn) → s7.heap.IsList r (us'.set i v6).toArray →
        Fs s₀ env [("minimum", vi mn'), ("result", vi (min (min res r0 + 2) (d + sc bc a[i]))), ("distance", vi r0), ("bchar", vs (S [bc])), ("a", vs (S a)), ("b", vs (S b)), ("max_cost", vi m), ("row", vr r)] s7 → KX (r :: fa env) s'.heap s7.heap →
        (i + 1 ≤ a.length ∧ ∃ (d res mn : Int) (done todo : List Int) (us' : List Value), done.length = i + 1 ∧ todo.length = a.length - (i + 1) ∧
      inner bc a row d0 d0 big = (done ++ (inner bc (a.drop (i + 1)) todo d res mn).1, (inner bc (a.drop (i + 1)) todo d res mn).2.1, (inner bc (a.drop (i + 1)) todo d res mn).2.2) ∧
      s7.heap.IsList r us'.toArray ∧ All2 s7.heap us' ((done ++ todo).map vi) ∧
      Fs s₀ env [("minimum", vi mn), ("result", vi res), ("distance", vi d), ("bchar", vs (S [bc])), ("a", vs (S a)), ("b", vs (S b)), ("max_cost", vi m), ("row", vr r)] s7) ∧ KX (r :: fa env) s'.heap s7.heap ∧ (∃ h tk, s7 = { s₀ with heap := h, toks := tk }) := by
      intro mn' s7 hmn hl7 F7 kx7
      refine ⟨⟨hlt, r0, _, mn', done ++ [min (min res r0 + 2) (d + sc bc a[i])], todo', us'.set i v6, by simp [e1], by simp at e2; omega, ?_, hl7, all2_vi hx6, F7⟩, kx7, F7.same⟩
      rw [e3, hmn]
      simp
    refine ex_if1 (base := base) fe (hb.tr F6.keep) F6 (PT.cmp (PE.name ok rfl rfl) (PE.name ok rfl rfl) oc_lt rfl) ?_ ?_
    · intro hc h7 t7 k7 F7
      have hc' : min (min res r0 + 2) (d + sc bc a[i]) < mn := by simpa using hc
      refine ex_assign (base := base) fe (hb.tr F7.keep) F7 (kdl he (.inl rfl)) rfl (flat_vi _).sq (PE.name ok rfl rfl) ?_
      intro h8 t8 k8 F8
      refine ex_nil (ex_nil (fin _ _ (by rw [if_pos hc']) (isList_ks (k7.ks.tr k8.ks) hl6) (F8.sl ⟨rfl, rfl, rfl, rfl, rfl, rfl, rfl, rfl, trivial⟩) (kx6.tr (k7.kx.tr (k8.kx.mono fun p hp => List.mem_cons_of_mem _ hp)))))
    · intro hc h7 t7 k7 F7
      have hc' : ¬ min (min res r0 + 2) (d + sc bc a[i]) < mn := by simpa using hc
      exact ex_nil (fin _ _ (by rw [if_neg hc']) (isList_ks k7.ks hl6) (F7.sl ⟨rfl, rfl, rfl, rfl, rfl, rfl, rfl, rfl, trivial⟩) (kx6.tr k7.kx))
  · rintro s' ⟨hi, d, res, mn, done, todo, us', e1, e2, e3, hl', hx', F'⟩ kx hsame
    have hn : todo = [] := by simpa [rgi] using e2
    subst hn
    have hd : List.drop ((rgi 0 1 a.length).map vi).length a = [] := by simp [rgi]
    rw [hd] at e3
    have ez : inner bc [] ([] : List Int) d res mn = ([], res, mn) := rfl
    rw [ez] at e3
    refine k s' us' ?_ hl' ?_ kx
    · rw [e3]; exact F'.sl ⟨rfl, rfl, rfl, rfl, rfl, rfl, trivial⟩
    · rw [e3]; exact hx'
end
end Mine
namespace Mine
open PySem PyProof.Rows PySem.Calls

theorem inner_len (bc : Nat) : ∀ (a : List Nat) (row : List Int) (d res mn : Int), (inner bc a row d res mn).1.length = row.length
  | [], row, d, res, mn => rfl
  | _ :: _, [], _, _, _ => rfl
  | c :: a, r :: row, d, res, mn => by simp [inner, inner_len bc a row]
theorem mul2 {a : Int} : IntMulOk a 2 := IntMulOk.of_right (by decide)
theorem mul2' {a : Int} : IntMulOk 2 a := IntMulOk.of_left (by decide)

section
variable {prog : Program} {w : World} {base : Heap} {A : Around} {mg mb : Str → Option Value} {E : Value → Shared → Prop} {s₀ s : Shared} {env : Env}

/-- the address of a new list -/
theorem Fs.pinl {G : List (Str × VP)} (F : Fs s₀ env G s) {x : Str} {h₀ : Heap} {Ps : List VP} (hx : G.lookup x = some (vln h₀ Ps)) :
    ∃ r us, h₀.get? r = none ∧ s.heap.IsList r us.toArray ∧ All2 s.heap us Ps ∧ Fs s₀ env ((x, vr r) :: G) s := by
  obtain ⟨m, cm, ic, hv⟩ := F.ic
  obtain ⟨v, hsl, r, us, rfl, hr, hl, ha⟩ := hv x _ hx
  refine ⟨r, us, hr, hl, ha, ⟨⟨m, cm, ic, fun y P e => ?_⟩, fun y P e => ?_⟩⟩
  · rcases lookup_cons_cases e with ⟨rfl, rfl⟩ | ⟨_, e⟩
    · exact ⟨_, hsl, rfl⟩
    · exact hv y P e
  · rcases lookup_cons_cases e with ⟨rfl, rfl⟩ | ⟨_, e⟩
    · exact (flat_vr r).sq
    · exact F.sq y P e

/-- the outer loop and the end -/
theorem lev_out (W : W0 mg mb base) (hA : OkA A 989) (he : env.scope = fscope 5) (fe : FEnv env) {a : List Nat} {m : Int} {b : List Nat} {r : Addr} {us : List Value} {row : List Int}
    (ha : ∀ c ∈ a, c < 128) (hbs : ∀ c ∈ b, c < 128) (hal : a.length ≤ 40) (hbl : b.length ≤ 40) (hrow : row.length = a.length) (hb : Kp base s₀.heap) (hr : s₀.heap.get? r = none)
    (F : Fs s₀ env [("result", vi 0), ("a", vs (S a)), ("b", vs (S b)), ("max_cost", vi m), ("row", vr r)] s)
    (hl : s.heap.IsList r us.toArray) (hx : All2 s.heap us (row.map vi)) :
    wpAny (model prog w) A (execs ((fbody 5).drop 15) env) (Ret s₀ (vi (outer a m b 0 row 0))) E s := by
  have ok := fe.toEnvOk
  have hrf : r ∉ fa env := F.not_fa hl
  refine ex_for (base := base) fe (hb.tr F.keep) F (r :: fa env) ((rgi 0 1 b.length).map vi)
    (PE.tcall he ok W.B W.nrange rfl rfl (by decide) rfl do_range1 (PA.cons (PE.len_s he ok W.B W.nlen (by omega) rfl (PE.name ok rfl rfl) rfl) PA.nil rfl) rfl)
    (fun h' v _ hv => it_range hA.h hv (small01 (by omega)) (rsize01 _)) ?_ ?_ ?_
    (fun i s' => i ≤ b.length ∧ ∃ (res : Int) (rw' : List Int) (us' : List Value), rw'.length = a.length ∧ outer a m b 0 row 0 = outer a m (b.drop i) i rw' res ∧
      s'.heap.IsList r us'.toArray ∧ All2 s'.heap us' (rw'.map vi) ∧
      Fs s₀ env [("result", vi res), ("a", vs (S a)), ("b", vs (S b)), ("max_cost", vi m), ("row", vr r)] s')
    ?_ ?_ ?_ ?_ (by intro x; rfl)
  · intro R hR
    obtain ⟨i, _, rfl⟩ := List.mem_map.mp hR
    exact flat_vi i
  · intro b hbm
    rcases List.mem_cons.mp hbm with rfl | hbm
    · obtain ⟨o, h1, _⟩ := hl; exact ⟨o, h1⟩
    · obtain ⟨o, h1, _⟩ := F.fa_some b hbm; exact ⟨o, h1⟩
  · intro b hbm
    rcases List.mem_cons.mp hbm with rfl | hbm
    · exact hr
    · exact F.fa_fresh b hbm
  · intro h' tk kp F'
    exact ⟨Nat.zero_le _, 0, row, us, hrow, by simp, isList_ks kp.ks hl, hx.up kp, F'⟩
  · rintro i s' h' tk ⟨hi, res, rw', us', e1, e2, hl', hx', F'⟩ kn k0
    exact ⟨hi, res, rw', us', e1, e2, isList_ks kn.ks hl', all2_vi hx', F'.kn kn k0⟩
  · rintro i R s' v E' hR hRv ⟨hi, res, rw', us', e1, e2, hl', hx', F'⟩ kx hsame
    obtain ⟨hlt, rfl⟩ := rgi01_get hR
    have hci : b[i] < 128 := hbs _ (List.getElem_mem hlt)
    rw [List.drop_eq_getElem_cons hlt] at e2
    have e3 : outer a m b 0 row 0 = if m < (inner b[i] a rw' (i * 2) (i * 2) big).2.2 then m + 1 else outer a m (b.drop (i + 1)) ((i : Int) + 1) (inner b[i] a rw' (i * 2) (i * 2) big).1 (inner b[i] a rw' (i * 2) (i * 2) big).2.1 := e2
    refine store_ fe F' (kdl he (.inl rfl)) hRv (flat_vi _).sq fun h1 t1 k1 F1 => ?_
    refine ex_assign (base := base) fe (hb.tr F1.keep) F1 (kdl he (.inl rfl)) rfl (flat_vs _).sq
      (PE.item_s (l := b) (i := (i : Int)) (c := b[i]) (PE.name ok rfl rfl) (PE.name ok rfl rfl) (by omega) (by rw [seqIx hlt]; simp) (by intro _ _; rfl)) ?_
    intro h2 t2 k2 F2
    refine ex_assign2 (base := base) fe (hb.tr F2.keep) F2 (kdl he (.inl rfl)) (kdl he (.inl rfl)) (flat_vi _).sq (PE.bin (PE.name ok rfl rfl) (PE.globi he ok W.B W.mc rfl rfl) (ob_mul mul2)) ?_
    intro h3 t3 k3 F3
    refine ex_assign (base := base) fe (hb.tr F3.keep) F3 (kdl he (.inl rfl)) rfl (flat_vi _).sq PE.cint ?_
    intro h4 t4 k4 F4
    have hl4 := isList_ks (k1.ks.tr (k2.ks.tr (k3.ks.tr k4.ks))) hl'
    have kx4 : KX (r :: fa env) s'.heap h4 := (k1.kx.tr (k2.kx.tr (k3.kx.tr k4.kx))).mono fun p hp => List.mem_cons_of_mem _ hp
    refine lev_in W hA he fe (row := rw') (bi := (i : Int)) (b := b) (m := m) ha hci hal e1 hb hr (F4.sl ⟨rfl, rfl, rfl, rfl, rfl, rfl, rfl, rfl, rfl, trivial⟩) hl4 (all2_vi hx') ?_
    intro s5 us5 F5 hl5 hx5 kx5
    refine ex_if1 (base := base) fe (hb.tr F5.keep) F5 (PT.cmp (PE.name ok rfl rfl) (PE.name ok rfl rfl) oc_gt rfl) ?_ ?_
    · intro hc h6 t6 k6 F6
      have hc' : m < (inner b[i] a rw' (i * 2) (i * 2) big).2.2 := by simpa using hc
      rw [if_pos hc'] at e3
      refine ex_ret (base := base) fe (hb.tr F6.keep) F6 (PE.bin (PE.name ok rfl rfl) PE.cint ob_add) fun v7 h7 t7 k7 p7 => ?_
      have := F6.ret (tk := t7) (R := vi (outer a m b 0 row 0)) k7 (by rw [e3]; exact p7)
      exact this
    · intro hc h6 t6 k6 F6
      have hc' : ¬ m < (inner b[i] a rw' (i * 2) (i * 2) big).2.2 := by simpa using hc
      rw [if_neg hc'] at e3
      exact ex_nil ⟨⟨hlt, _, _, us5, by rw [inner_len]; exact e1, by rw [e3]; simp, isList_ks k6.ks hl5, all2_vi hx5, F6.sl ⟨rfl, rfl, rfl, rfl, rfl, trivial⟩⟩, kx4.tr (kx5.tr k6.kx), F6.same⟩
  · rintro s' ⟨hi, res, rw', us', e1, e2, hl', hx', F'⟩ kx hsame
    have hd : List.drop ((rgi 0 1 b.length).map vi).length b = [] := by simp [rgi]
    rw [hd] at e2
    have ez : outer a m b 0 row 0 = res := e2
    refine ex_ret (base := base) fe (hb.tr F'.keep) F' (PE.name ok rfl rfl) fun v7 h7 t7 k7 p7 => F'.ret k7 ?_
    rw [ez]; exact p7

theorem rsize2 (n : Nat) : Builtin.Range.rangeSize 2 (2 * ((n : Int) + 1)) 2 = (n : Nat) := by
  unfold Builtin.Range.rangeSize
  simp
  omega
theorem small2 {n : Nat} (h : n ≤ 1000000) : Builtin.Range.small 2 (2 * ((n : Int) + 1)) 2 = true := by
  unfold Builtin.Range.small
  rw [rsize2]
  simp [Builtin.Range.rangeFitsLong]
  omega
theorem pylong2 {a : Int} : Builtin.divisionGoesByPylong a 2 = false := by
  unfold Builtin.divisionGoesByPylong
  have : (decide ((if ((2 : Int) == 0) = true then 0 else (2 : Int).natAbs.log2 / 30 + 1) > 300)) = false := by decide
  simp only [this, Bool.false_and]

/-- from the comparison of lengths on -/
theorem lev_core (W : W0 mg mb base) (hA : OkA A 989) (he : env.scope = fscope 5) (fe : FEnv env) {a : List Nat} {m : Int} {b : List Nat}
    (ha : ∀ c ∈ a, c < 128) (hbs : ∀ c ∈ b, c < 128) (hal : a.length ≤ 40) (hbl : b.length ≤ 40) (hb : Kp base s₀.heap)
    (F : Fs s₀ env [("a", vs (S a)), ("b", vs (S b)), ("max_cost", vi m)] s) :
    wpAny (model prog w) A (execs ((fbody 5).drop 12) env) (Ret s₀ (vi (core a b m))) E s := by
  have ok := fe.toEnvOk
  refine ex_if1 (base := base) fe (hb.tr F.keep) F (PT.cmp (PE.bin (PE.bin (PE.len_s he ok W.B W.nlen (by omega) rfl (PE.name ok rfl rfl) rfl) (PE.len_s he ok W.B W.nlen (by omega) rfl (PE.name ok rfl rfl) rfl) ob_sub)
    (PE.globi he ok W.B W.mc rfl rfl) (ob_mul mul2)) (PE.name ok rfl rfl) oc_gt rfl) ?_ ?_
  · intro hc h1 t1 k1 F1
    have hc' : m < ((b.length : Int) - a.length) * 2 := by simpa using hc
    refine ex_ret (base := base) fe (hb.tr F1.keep) F1 (PE.bin (PE.name ok rfl rfl) PE.cint ob_add) fun v7 h7 t7 k7 p7 => F1.ret k7 ?_
    unfold core; rw [if_pos hc']; exact p7
  · intro hc h1 t1 k1 F1
    have hc' : ¬ m < ((b.length : Int) - a.length) * 2 := by simpa using hc
    refine ex_assign (base := s₀.heap) fe F1.keep F1 (kdl he (.inl rfl)) rfl (P := vln s₀.heap ((rgi 2 2 a.length).map vi)) (sq_vln fun P hP => by obtain ⟨i, _, rfl⟩ := List.mem_map.mp hP; exact (flat_vi i).sq)
      (PE.tcall he ok (W.B.mono hb) W.nlist rfl rfl (by decide) rfl (do_list_range hA.h (small2 (by omega)) (rsize2 _) (by omega)) (PA.cons
        (PE.tcall he ok (W.B.mono hb) W.nrange rfl rfl (by decide) rfl (do_range3 (by decide) pylong2) (PA.cons (PE.globi he ok (W.B.mono hb) W.mc rfl rfl) (PA.cons
          (PE.bin (PE.globi he ok (W.B.mono hb) W.mc rfl rfl) (PE.bin (PE.len_s he ok (W.B.mono hb) W.nlen (by omega) rfl (PE.name ok rfl rfl) rfl) PE.cint ob_add) (ob_mul mul2'))
          (PA.cons (PE.globi he ok (W.B.mono hb) W.mc rfl rfl) PA.nil rfl) rfl) rfl) rfl) PA.nil rfl) rfl) ?_
    intro h2 t2 k2 F2
    refine ex_assign (base := base) fe (hb.tr F2.keep) F2 (kdl he (.inl rfl)) rfl (flat_vi _).sq PE.cint ?_
    intro h3 t3 k3 F3
    obtain ⟨r, us, hr, hl, hx, F4⟩ := F3.pinl (x := "row") rfl
    have := lev_out (prog := prog) (w := w) (E := E) W hA he fe ha hbs hal hbl (row := rgi 2 2 a.length) (by simp [rgi]) hb hr (F4.sl ⟨rfl, rfl, rfl, rfl, rfl, trivial⟩) hl hx
    unfold core; rw [if_neg hc']
    exact this
end
end Mine
namespace Mine
open PySem PyProof.Rows PySem.Calls

section
variable {prog : Program} {w : World} {base : Heap} {A : Around} {mg mb : Str → Option Value} {E : Value → Shared → Prop} {s₀ s : Shared} {env : Env} {G : List (Str × VP)}

/-- from the two stripped words on -/
theorem lev_mid (W : W0 mg mb base) (hA : OkA A 989) (he : env.scope = fscope 5) (fe : FEnv env) {a : List Nat} {m : Int} {b : List Nat}
    (ha : ∀ c ∈ a, c < 128) (hbs : ∀ c ∈ b, c < 128) (hal : a.length ≤ 40) (hbl : b.length ≤ 40) (hb : Kp base s₀.heap)
    (F : Fs s₀ env [("a", vs (S a)), ("b", vs (S b)), ("max_cost", vi m)] s) :
    wpAny (model prog w) A (execs ((fbody 5).drop 9) env) (Ret s₀ (vi (if a = [] ∨ b = [] then 2 * ((a.length : Int) + b.length) else if b.length < a.length then core b a m else core a b m))) E s := by
  have ok := fe.toEnvOk
  refine ex_if1 (base := base) fe (hb.tr F.keep) F (PT.or (PT.not (PT.plain (PE.name ok rfl rfl) (tr_s (by omega)) rfl)) (fun _ => PT.or (PT.not (PT.plain (PE.name ok rfl rfl) (tr_s (by omega)) rfl)) (fun _ => PT.or_nil))) ?_ ?_
  · intro hc h1 t1 k1 F1
    have hc' : a = [] ∨ b = [] := by simpa using hc
    refine ex_ret (base := base) fe (hb.tr F1.keep) F1 (PE.bin (PE.globi he ok W.B W.mc rfl rfl) (PE.bin (PE.len_s he ok W.B W.nlen (by omega) rfl (PE.name ok rfl rfl) rfl) (PE.len_s he ok W.B W.nlen (by omega) rfl (PE.name ok rfl rfl) rfl) ob_add) (ob_mul mul2'))
      fun v7 h7 t7 k7 p7 => F1.ret k7 ?_
    rw [if_pos hc']; exact p7
  intro hc h1 t1 k1 F1
  have hc' : ¬ (a = [] ∨ b = []) := by simpa using hc
  rw [if_neg hc']
  refine ex_if1 (base := base) fe (hb.tr F1.keep) F1 (PT.or (PT.cmp (PE.len_s he ok W.B W.nlen (by omega) rfl (PE.name ok rfl rfl) rfl) (PE.globi he ok W.B W.ms rfl rfl) oc_gt rfl)
    (fun _ => PT.or (PT.cmp (PE.len_s he ok W.B W.nlen (by omega) rfl (PE.name ok rfl rfl) rfl) (PE.globi he ok W.B W.ms rfl rfl) oc_gt rfl) (fun _ => PT.or_nil))) ?_ ?_
  · intro hc; simp at hc; omega
  intro _ h2 t2 k2 F2
  refine ex_if1 (base := base) fe (hb.tr F2.keep) F2 (PT.cmp (PE.len_s he ok W.B W.nlen (by omega) rfl (PE.name ok rfl rfl) rfl) (PE.len_s he ok W.B W.nlen (by omega) rfl (PE.name ok rfl rfl) rfl) oc_lt rfl) ?_ ?_
  · intro hc h3 t3 k3 F3
    have hc2 : b.length < a.length := by simp at hc; omega
    rw [if_pos hc2]
    refine ex_swap2 (base := base) hA.h fe (hb.tr F3.keep) F3 (kdl he (.inl rfl)) (kdl he (.inl rfl)) (flat_vs _).sq (flat_vs _).sq ?_ (PE.tup (PA.cons (PE.name ok rfl rfl) (PA.cons (PE.name ok rfl rfl) PA.nil rfl) rfl) (by show 2 ≤ _; decide)) ?_
    · cases env; dsimp only at he; subst he; rfl
    intro h4 t4 k4 F4
    exact ex_nil (lev_core W hA he fe hbs ha hbl hal hb (F4.sl ⟨rfl, rfl, rfl, trivial⟩))
  · intro hc h3 t3 k3 F3
    have hc2 : ¬ b.length < a.length := by simp at hc; omega
    rw [if_neg hc2]
    exact lev_core W hA he fe ha hbs hal hbl hb F3
end
end Mine
namespace Mine
open PySem PyProof.Rows PySem.Calls

theorem post_cut (l : List Nat) {q : Nat} (h : q ≤ l.length) : cut l none (if q = 0 then none else some (-(q : Int))) = (l.reverse.drop q).reverse := by
  by_cases h0 : q = 0
  · subst h0; simp [cut_all]
  · rw [if_neg h0]; exact cut_back l h (by omega)
theorem seqIxN {n q : Nat} (h : q < n) : seqIndex? (-(q : Int) - 1) n = some (n - 1 - q) := by
  unfold seqIndex?
  have h1 : (-(q : Int) - 1 < 0) := by omega
  simp only [h1, if_true]
  have h2 : (0 ≤ -(q : Int) - 1 + (n : Int) ∧ -(q : Int) - 1 + (n : Int) < n) := by omega
  have h3 : (-(q : Int) - 1 + (n : Int)).toNat = n - 1 - q := by omega
  simp [h2, h3]
theorem rev_get (l : List Nat) {q : Nat} (h : q < l.length) : l[l.length - 1 - q]? = l.reverse[q]? := by
  rw [List.getElem?_reverse h]

section
variable {prog : Program} {w : World} {base : Heap} {A : Around} {mg mb : Str → Option Value} {E : Value → Shared → Prop} {s₀ s : Shared} {env : Env} {G : List (Str × VP)}

theorem PT.congr {e : Expr} {b b' : Bool} (h : PT prog w base A env G e b) (hb : b = b') : PT prog w base A env G e b' := hb ▸ h

theorem po_post {x : Str} {p1 p2 p3 : Pos} {kk q : Nat} (ok : EnvOk env) (hx : G.lookup x = some (vi (-(q : Int)))) (hd : (x == ("__debug__" : Str)) = false) :
    PO prog w base A env G (some (.BoolOp .Or [.Name x p1, .Constant .none kk p2] p3)) (if q = 0 then none else some (-(q : Int))) := by
  by_cases h0 : q = 0
  · subst h0
    exact PO.somen (PE.orElse (PE.name ok hx hd) tr_i (by intro h; simp at h) (fun _ => PE.cnone))
  · rw [if_neg h0]
    exact PO.some (PE.orElse (PE.name ok hx hd) tr_i (fun _ _ _ p => p) (by intro h; simp at h; omega))

/-- from the second strip on -/
theorem lev_post (W : W0 mg mb base) (hA : OkA A 989) (he : env.scope = fscope 5) (fe : FEnv env) {a : List Nat} {m : Int} {b : List Nat}
    (ha : ∀ c ∈ a, c < 128) (hbs : ∀ c ∈ b, c < 128) (hal : a.length ≤ 40) (hbl : b.length ≤ 40) (hb : Kp base s₀.heap)
    (F : Fs s₀ env [("a", vs (S a)), ("b", vs (S b)), ("max_cost", vi m)] s) {R : VP}
    (hR : R = vi (if (stripP a.reverse b.reverse).1.reverse = [] ∨ (stripP a.reverse b.reverse).2.reverse = [] then 2 * (((stripP a.reverse b.reverse).1.reverse.length : Int) + (stripP a.reverse b.reverse).2.reverse.length)
      else if (stripP a.reverse b.reverse).2.reverse.length < (stripP a.reverse b.reverse).1.reverse.length then core (stripP a.reverse b.reverse).2.reverse (stripP a.reverse b.reverse).1.reverse m
      else core (stripP a.reverse b.reverse).1.reverse (stripP a.reverse b.reverse).2.reverse m)) :
    wpAny (model prog w) A (execs ((fbody 5).drop 5) env) (Ret s₀ R) E s := by
  have ok := fe.toEnvOk
  refine ex_assign (base := base) fe (hb.tr F.keep) F (kdl he (.inl rfl)) rfl (flat_vi _).sq PE.cint ?_
  intro h1 t1 k1 F1
  refine ex_while (base := base) fe hb (fun n s => ∃ q : Nat, n = a.length - q ∧ q ≤ a.length ∧ q ≤ b.length ∧ stripP a.reverse b.reverse = stripP (a.reverse.drop q) (b.reverse.drop q) ∧
    Fs s₀ env [("post", vi (-(q : Int))), ("a", vs (S a)), ("b", vs (S b)), ("max_cost", vi m)] s) a.length ⟨0, rfl, Nat.zero_le _, Nat.zero_le _, rfl, F1⟩ ?_
  rintro n s2 E' ⟨q, rfl, hqa, hqb, hst, F2⟩
  refine ⟨_, decide (q < a.length ∧ q < b.length ∧ a.reverse[q]? = b.reverse[q]?), F2, ?_, ?_, ?_⟩
  · have hz : ∀ l : List Nat, l.length ≤ 40 → l.length ≤ sizeLine := fun l h => Nat.le_trans h (by decide)
    have hc : ∀ l : List Nat, l.length ≤ 40 → q ≤ l.length → (cut l none (if q = 0 then none else some (-(q : Int)))).length < 2 ^ 62 := fun l h1 h2 => by rw [post_cut l h2]; simp; omega
    have hne : ∀ l : List Nat, q ≤ l.length → (!(cut l none (if q = 0 then none else some (-(q : Int)))).isEmpty) = decide (q < l.length) := fun l h2 => by
      rw [post_cut l h2]
      by_cases h : q < l.length
      · rw [decide_eq_true h]
        have : (l.reverse.drop q).reverse ≠ [] := by
          intro e
          have := congrArg List.length e
          simp at this; omega
        simpa using this
      · rw [decide_eq_false h]
        have : (l.reverse.drop q).reverse = [] := by simp; omega
        rw [this]; rfl
    by_cases c1 : q < a.length
    · by_cases c2 : q < b.length
      · obtain ⟨x1, g1⟩ : ∃ x, a.reverse[q]? = some x := ⟨_, List.getElem?_eq_getElem (by simpa using c1)⟩
        obtain ⟨x2, g2⟩ : ∃ x, b.reverse[q]? = some x := ⟨_, List.getElem?_eq_getElem (by simpa using c2)⟩
        refine PT.congr (PT.and (PT.plain (PE.sl (hz a hal) (PE.name ok rfl rfl) PO.none (po_post ok rfl rfl) (by intro _ _; rfl)) (tr_s (hc a hal hqa)) rfl) fun _ =>
          PT.and (PT.plain (PE.sl (hz b hbl) (PE.name ok rfl rfl) PO.none (po_post ok rfl rfl) (by intro _ _; rfl)) (tr_s (hc b hbl hqb)) rfl) fun _ =>
          PT.and (PT.cmp (PE.item_s (l := a) (i := -(q : Int) - 1) (c := x1) (PE.name ok rfl rfl) (PE.bin (PE.name ok rfl rfl) PE.cint ob_sub) (by omega) (by rw [seqIxN c1]; rw [Option.bind_some, rev_get a c1]; exact g1) (by intro _ _; rfl))
            (PE.item_s (l := b) (i := -(q : Int) - 1) (c := x2) (PE.name ok rfl rfl) (PE.bin (PE.name ok rfl rfl) PE.cint ob_sub) (by omega) (by rw [seqIxN c2]; rw [Option.bind_some, rev_get b c2]; exact g2) (by intro _ _; rfl)) oc_eqs rfl) fun _ => PT.and_nil) ?_
        rw [hne a hqa, hne b hqb, g1, g2]
        by_cases hx : x1 = x2 <;> simp [c1, c2, hx]
      · refine PT.congr (PT.and (c := false) (PT.plain (PE.sl (hz a hal) (PE.name ok rfl rfl) PO.none (po_post ok rfl rfl) (by intro _ _; rfl)) (tr_s (hc a hal hqa)) rfl) fun _ =>
          PT.congr (PT.and (c := false) (PT.plain (PE.sl (hz b hbl) (PE.name ok rfl rfl) PO.none (po_post ok rfl rfl) (by intro _ _; rfl)) (tr_s (hc b hbl hqb)) rfl) fun h => absurd h (by rw [hne b hqb]; simpa using c2)) (Bool.and_false _)) ?_
        simp [c2]
    · refine PT.congr (PT.and (c := false) (PT.plain (PE.sl (hz a hal) (PE.name ok rfl rfl) PO.none (po_post ok rfl rfl) (by intro _ _; rfl)) (tr_s (hc a hal hqa)) rfl) fun h => absurd h (by rw [hne a hqa]; simpa using c1)) ?_
      simp [c1]
  · intro hc h3 t3 k3 F3
    obtain ⟨c1, c2, c3⟩ := of_decide_eq_true hc
    refine ex_aug (base := base) fe (hb.tr F3.keep) F3 (kdl he (.inl rfl)) (flat_vi _).sq rfl PE.cint oi_sub ?_
    intro h4 t4 k4 F4
    refine ex_nil ⟨rfl, a.length - (q + 1), by omega, q + 1, rfl, by omega, by omega, hst.trans (stripP_step (by simpa using c1) (by simpa using c2) c3), ?_⟩
    have e : -(q : Int) - 1 = -((q + 1 : Nat) : Int) := by omega
    rw [e] at F4
    exact F4.sl ⟨rfl, rfl, rfl, rfl, trivial⟩
  · intro hc h3 t3 k3 F3
    have hc' := of_decide_eq_false hc
    have hst' := hst.trans (stripP_stop (by
      simp only [List.length_reverse]
      by_cases c1 : q < a.length
      · by_cases c2 : q < b.length
        · right; right; intro e; exact hc' ⟨c1, c2, e⟩
        · right; left; omega
      · left; omega))
    have hz : ∀ l : List Nat, l.length ≤ 40 → l.length ≤ sizeLine := fun l h => Nat.le_trans h (by decide)
    have eA : cut a none (if q = 0 then none else some (-(q : Int))) = (stripP a.reverse b.reverse).1.reverse := by rw [post_cut a hqa, hst']
    have eB : cut b none (if q = 0 then none else some (-(q : Int))) = (stripP a.reverse b.reverse).2.reverse := by rw [post_cut b hqb, hst']
    have pA : ∀ (G : List (Str × VP)) p1 p2 p3 p4 p5 p6 (k : Nat), G.lookup ("a" : Str) = some (vs (S a)) → G.lookup ("post" : Str) = some (vi (-(q : Int))) → PE prog w base A env G (.Subscript (.Name "a" p1) (.Slice none (some (.BoolOp .Or [.Name "post" p2, .Constant .none k p3] p4)) none p5) p6) (vs (S (stripP a.reverse b.reverse).1.reverse)) := by
      intro G p1 p2 p3 p4 p5 p6 k g1 g2
      rw [← eA]; exact PE.sl (hz a hal) (PE.name ok g1 rfl) PO.none (po_post ok g2 rfl) (by intro _ _; rfl)
    have pB : ∀ (G : List (Str × VP)) p1 p2 p3 p4 p5 p6 (k : Nat), G.lookup ("b" : Str) = some (vs (S b)) → G.lookup ("post" : Str) = some (vi (-(q : Int))) → PE prog w base A env G (.Subscript (.Name "b" p1) (.Slice none (some (.BoolOp .Or [.Name "post" p2, .Constant .none k p3] p4)) none p5) p6) (vs (S (stripP a.reverse b.reverse).2.reverse)) := by
      intro G p1 p2 p3 p4 p5 p6 k g1 g2
      rw [← eB]; exact PE.sl (hz b hbl) (PE.name ok g1 rfl) PO.none (po_post ok g2 rfl) (by intro _ _; rfl)
    refine ex_assign (base := base) fe (hb.tr F3.keep) F3 (kdl he (.inl rfl)) rfl (flat_vs _).sq (pA _ _ _ _ _ _ _ _ rfl rfl) ?_
    intro h4 t4 k4 F4
    refine ex_assign (base := base) fe (hb.tr F4.keep) F4 (kdl he (.inl rfl)) rfl (flat_vs _).sq (pB _ _ _ _ _ _ _ _ rfl rfl) ?_
    intro h5 t5 k5 F5
    have m1 := stripP_mem a.reverse b.reverse
    have l1 := stripP_le a.reverse b.reverse
    simp only [List.length_reverse] at l1
    rw [hR]
    exact lev_mid W hA he fe (fun c h => ha c (by simpa using m1.1 c (by simpa using h))) (fun c h => hbs c (by simpa using m1.2 c (by simpa using h))) (by simp; omega) (by simp; omega) hb (F5.sl ⟨rfl, rfl, rfl, trivial⟩)
end
end Mine
namespace Mine
open PySem PyProof.Rows PySem.Calls
section
variable {prog : Program} {w : World} {base : Heap} {A : Around} {mg mb : Str → Option Value} {E : Value → Shared → Prop} {s₀ s : Shared} {env : Env} {G : List (Str × VP)}

theorem lev_body (W : W0 mg mb base) (hA : OkA A 989) (he : env.scope = fscope 5) (fe : FEnv env) {a : List Nat} {m : Int} {b : List Nat}
    (ha : ∀ c ∈ a, c < 128) (hbs : ∀ c ∈ b, c < 128) (hal : a.length ≤ 40) (hbl : b.length ≤ 40) (hb : Kp base s₀.heap)
    (F : Fs s₀ env [("a", vs (S a)), ("b", vs (S b)), ("max_cost", vi m)] s) :
    wpAny (model prog w) A (execs (fbody 5) env) (Ret s₀ (vi (lev a b m))) E s := by
  have ok := fe.toEnvOk
  have hz : ∀ l : List Nat, l.length ≤ 40 → l.length ≤ sizeLine := fun l h => Nat.le_trans h (by decide)
  refine ex_if1 (base := base) fe (hb.tr F.keep) F (PT.cmp (PE.name ok rfl rfl) (PE.name ok rfl rfl) oc_eqs rfl) ?_ ?_
  · intro hc h1 t1 k1 F1
    refine ex_ret (base := base) fe (hb.tr F1.keep) F1 PE.cint fun v h2 t2 k2 p => F1.ret k2 ?_
    have : a = b := by simpa using hc
    subst this
    simpa [lev] using p
  intro hc h1 t1 k1 F1
  have hab : a ≠ b := by simpa using hc
  refine ex_assign (base := base) fe (hb.tr F1.keep) F1 (kdl he (.inl rfl)) rfl (flat_vi _).sq PE.cint ?_
  intro h2 t2 k2 F2
  refine ex_while (base := base) fe hb (fun n s => ∃ q : Nat, n = a.length - q ∧ q ≤ a.length ∧ q ≤ b.length ∧ stripP a b = stripP (a.drop q) (b.drop q) ∧
    Fs s₀ env [("pre", vi (q : Int)), ("a", vs (S a)), ("b", vs (S b)), ("max_cost", vi m)] s) a.length ⟨0, rfl, Nat.zero_le _, Nat.zero_le _, rfl, F2⟩ ?_
  rintro n s3 E' ⟨q, rfl, hqa, hqb, hst, F3⟩
  refine ⟨_, decide (q < a.length ∧ q < b.length ∧ a[q]? = b[q]?), F3, ?_, ?_, ?_⟩
  · have hc : ∀ l : List Nat, l.length ≤ 40 → q ≤ l.length → (cut l (some (q : Int)) none).length < 2 ^ 62 := fun l h1 h2 => by rw [cut_from l h2]; simp; omega
    have hne : ∀ l : List Nat, q ≤ l.length → (!(cut l (some (q : Int)) none).isEmpty) = decide (q < l.length) := fun l h2 => by
      rw [cut_from l h2]
      by_cases h : q < l.length
      · rw [decide_eq_true h]
        have : l.drop q ≠ [] := by
          intro e
          have := congrArg List.length e
          simp at this; omega
        simpa using this
      · rw [decide_eq_false h]
        have : l.drop q = [] := by simp; omega
        rw [this]; rfl
    by_cases c1 : q < a.length
    · by_cases c2 : q < b.length
      · obtain ⟨x1, g1⟩ : ∃ x, a[q]? = some x := ⟨_, List.getElem?_eq_getElem c1⟩
        obtain ⟨x2, g2⟩ : ∃ x, b[q]? = some x := ⟨_, List.getElem?_eq_getElem c2⟩
        refine PT.congr (PT.and (PT.plain (PE.sl (hz a hal) (PE.name ok rfl rfl) (PO.some (PE.name ok rfl rfl)) PO.none (by intro _ _; rfl)) (tr_s (hc a hal hqa)) rfl) fun _ =>
          PT.and (PT.plain (PE.sl (hz b hbl) (PE.name ok rfl rfl) (PO.some (PE.name ok rfl rfl)) PO.none (by intro _ _; rfl)) (tr_s (hc b hbl hqb)) rfl) fun _ =>
          PT.and (PT.cmp (PE.item_s (l := a) (i := (q : Int)) (c := x1) (PE.name ok rfl rfl) (PE.name ok rfl rfl) (by omega) (by rw [seqIx c1]; exact g1) (by intro _ _; rfl))
            (PE.item_s (l := b) (i := (q : Int)) (c := x2) (PE.name ok rfl rfl) (PE.name ok rfl rfl) (by omega) (by rw [seqIx c2]; exact g2) (by intro _ _; rfl)) oc_eqs rfl) fun _ => PT.and_nil) ?_
        rw [hne a hqa, hne b hqb, g1, g2]
        by_cases hx : x1 = x2 <;> simp [c1, c2, hx]
      · refine PT.congr (PT.and (c := false) (PT.plain (PE.sl (hz a hal) (PE.name ok rfl rfl) (PO.some (PE.name ok rfl rfl)) PO.none (by intro _ _; rfl)) (tr_s (hc a hal hqa)) rfl) fun _ =>
          PT.congr (PT.and (c := false) (PT.plain (PE.sl (hz b hbl) (PE.name ok rfl rfl) (PO.some (PE.name ok rfl rfl)) PO.none (by intro _ _; rfl)) (tr_s (hc b hbl hqb)) rfl) fun h => absurd h (by rw [hne b hqb]; simpa using c2)) (Bool.and_false _)) ?_
        simp [c2]
    · refine PT.congr (PT.and (c := false) (PT.plain (PE.sl (hz a hal) (PE.name ok rfl rfl) (PO.some (PE.name ok rfl rfl)) PO.none (by intro _ _; rfl)) (tr_s (hc a hal hqa)) rfl) fun h => absurd h (by rw [hne a hqa]; simpa using c1)) ?_
      simp [c1]
  · intro hc h3 t3 k3 F3
    obtain ⟨c1, c2, c3⟩ := of_decide_eq_true hc
    refine ex_aug (base := base) fe (hb.tr F3.keep) F3 (kdl he (.inl rfl)) (flat_vi _).sq rfl PE.cint oi_add ?_
    intro h4 t4 k4 F4
    refine ex_nil ⟨rfl, a.length - (q + 1), by omega, q + 1, rfl, by omega, by omega, hst.trans (stripP_step c1 c2 c3), ?_⟩
    exact F4.sl ⟨rfl, rfl, rfl, rfl, trivial⟩
  · intro hc h3 t3 k3 F3
    have hc' := of_decide_eq_false hc
    have hst' := hst.trans (stripP_stop (by
      by_cases c1 : q < a.length
      · by_cases c2 : q < b.length
        · right; right; intro e; exact hc' ⟨c1, c2, e⟩
        · right; left; omega
      · left; omega))
    have eA : cut a (some (q : Int)) none = (stripP a b).1 := by rw [cut_from a hqa, hst']
    have eB : cut b (some (q : Int)) none = (stripP a b).2 := by rw [cut_from b hqb, hst']
    have pA : ∀ (G : List (Str × VP)) p1 p2 p5 p6, G.lookup ("a" : Str) = some (vs (S a)) → G.lookup ("pre" : Str) = some (vi (q : Int)) → PE prog w base A env G (.Subscript (.Name "a" p1) (.Slice (some (.Name "pre" p2)) none none p5) p6) (vs (S (stripP a b).1)) := by
      intro G p1 p2 p5 p6 g1 g2
      rw [← eA]; exact PE.sl (hz a hal) (PE.name ok g1 rfl) (PO.some (PE.name ok g2 rfl)) PO.none (by intro _ _; rfl)
    have pB : ∀ (G : List (Str × VP)) p1 p2 p5 p6, G.lookup ("b" : Str) = some (vs (S b)) → G.lookup ("pre" : Str) = some (vi (q : Int)) → PE prog w base A env G (.Subscript (.Name "b" p1) (.Slice (some (.Name "pre" p2)) none none p5) p6) (vs (S (stripP a b).2)) := by
      intro G p1 p2 p5 p6 g1 g2
      rw [← eB]; exact PE.sl (hz b hbl) (PE.name ok g1 rfl) (PO.some (PE.name ok g2 rfl)) PO.none (by intro _ _; rfl)
    refine ex_assign (base := base) fe (hb.tr F3.keep) F3 (kdl he (.inl rfl)) rfl (flat_vs _).sq (pA _ _ _ _ _ rfl rfl) ?_
    intro h4 t4 k4 F4
    refine ex_assign (base := base) fe (hb.tr F4.keep) F4 (kdl he (.inl rfl)) rfl (flat_vs _).sq (pB _ _ _ _ _ rfl rfl) ?_
    intro h5 t5 k5 F5
    have m1 := stripP_mem a b
    have l1 := stripP_le a b
    refine lev_post W hA he fe (fun c h => ha c (m1.1 c h)) (fun c h => hbs c (m1.2 c h)) (by omega) (by omega) hb (F5.sl ⟨rfl, rfl, rfl, trivial⟩) ?_
    unfold lev strip
    rw [if_neg hab]

theorem sq_flat3 {P Q X : VP} (h1 : Flat P) (h2 : Flat Q) (h3 : Flat X) : ∀ Y ∈ [P, Q, X], Sq Y := by
  intro Y hY; simp at hY; rcases hY with rfl | rfl | rfl
  · exact h1.sq
  · exact h2.sq
  · exact h3.sq

theorem c_lev (W : W0 mg mb base) (hA : OkA A 988) {f : Addr} (hf : FnAt mg base "_levenshtein_distance" (fargs 5) (fbody 5) (fscope 5) f) {a b : List Nat} {m : Int}
    (ha : ∀ c ∈ a, c < 128) (hbs : ∀ c ∈ b, c < 128) (hal : a.length ≤ 40) (hbl : b.length ≤ 40) : Does prog w base A (.ref f) [vs (S a), vs (S b), vi m] (vi (lev a b m)) := by
  refine does_def ["a", "b", "max_cost"] W.B hf (hA.room (by decide)) ?_ rfl (by decide) (by decide) (sq_flat3 (flat_vs _) (flat_vs _) (flat_vi _)) ?_
  · intro pm code doc us h
    rcases us with _ | ⟨x, _ | ⟨y, _ | ⟨z, _ | ⟨u, us⟩⟩⟩⟩ <;> simp at h
    rfl
  intro s₀ s env E he fe hb0 F
  exact lev_body W (hA.deeper env) he fe ha hbs hal hbl hb0 F
end
end Mine
namespace Mine
open PySem PyProof.Rows PySem.Calls

/-! comprehensions: the environment -/
theorem closure_ok {env : Env} : ∀ (names : List (Str × NameKind)) (acc : List (Str × Addr)), (∀ x ∈ names, x.2 = .free → ∃ c, env.cells.lookup x.1 = some c) →
    (∀ x c, acc.lookup x = some c → env.cells.lookup x = some c) →
    ∃ cl, (forIn names acc (fun x r => if (x.2 == NameKind.free) = true then do let c ← cellOf env x.1; pure (ForInStep.yield ((x.1, c) :: r)) else pure (ForInStep.yield r)) : Sem (List (Str × Addr))) = pure cl ∧
      (∀ x c, cl.lookup x = some c → env.cells.lookup x = some c) ∧ (∀ x, ((acc.lookup x).isSome = true ∨ (x, NameKind.free) ∈ names) → (cl.lookup x).isSome = true)
  | [], acc, _, h => ⟨acc, rfl, h, fun x hx => by rcases hx with hx | hx; · exact hx
                                                  · cases hx⟩
  | (n, k) :: r, acc, hn, h => by
    by_cases hk : k = .free
    · subst hk
      obtain ⟨c, hc⟩ := hn (n, .free) List.mem_cons_self rfl
      obtain ⟨cl, h1, h2, h3⟩ := closure_ok r ((n, c) :: acc) (fun x hx => hn x (List.mem_cons_of_mem _ hx)) (fun x c' e => by
        rw [List.lookup_cons] at e
        by_cases hx : x = n
        · subst hx; simp at e; exact e ▸ hc
        · have : (x == n) = false := beq_eq_false_iff_ne.mpr hx
          rw [this] at e; exact h x c' e)
      refine ⟨cl, ?_, h2, fun x hx => h3 x ?_⟩
      · rw [List.forIn_cons]
        have hco : cellOf env n = pure c := by unfold cellOf; rw [hc]
        simp only [BEq.rfl, if_true, hco, pure_bind]
        exact h1
      · rw [List.lookup_cons]
        by_cases hxn : x = n
        · subst hxn; left; simp
        · have : (x == n) = false := beq_eq_false_iff_ne.mpr hxn
          rw [this]
          rcases hx with hx | hx
          · exact .inl hx
          · rcases List.mem_cons.mp hx with e | hx
            · cases e; exact absurd rfl hxn
            · exact .inr hx
    · have hk' : (k == NameKind.free) = false := by simpa using hk
      obtain ⟨cl, h1, h2, h3⟩ := closure_ok r acc (fun x hx => hn x (List.mem_cons_of_mem _ hx)) h
      refine ⟨cl, ?_, h2, fun x hx => h3 x ?_⟩
      · rw [List.forIn_cons]
        simp only [hk', Bool.false_eq_true, if_false, pure_bind]
        exact h1
      · rcases hx with hx | hx
        · exact .inl hx
        · rcases List.mem_cons.mp hx with e | hx
          · cases e; exact absurd rfl hk
          · exact .inr hx

theorem closure_in {env : Env} : ∀ (names : List (Str × NameKind)) (acc cl : List (Str × Addr)),
    (forIn names acc (fun x r => if (x.2 == NameKind.free) = true then do let c ← cellOf env x.1; pure (ForInStep.yield ((x.1, c) :: r)) else pure (ForInStep.yield r)) : Sem (List (Str × Addr))) = pure cl →
    (∀ x ∈ names, x.2 = .free → ∃ c, env.cells.lookup x.1 = some c) → ∀ x c, cl.lookup x = some c → acc.lookup x = some c ∨ (x, NameKind.free) ∈ names
  | [], acc, cl, h, _, x, c, e => by
    rw [List.forIn_nil] at h
    have : acc = cl := by
      have h' : (Sem.pure acc : Sem _) = Sem.pure cl := h
      cases h'; rfl
    subst this; exact .inl e
  | (n, k) :: r, acc, cl, h, hn, x, c, e => by
    rw [List.forIn_cons] at h
    by_cases hk : k = .free
    · subst hk
      obtain ⟨c', hc'⟩ := hn (n, .free) List.mem_cons_self rfl
      have hco : cellOf env n = pure c' := by unfold cellOf; rw [hc']
      simp only [BEq.rfl, if_true, hco, pure_bind] at h
      rcases closure_in r _ cl h (fun x hx => hn x (List.mem_cons_of_mem _ hx)) x c e with h1 | h1
      · rw [List.lookup_cons] at h1
        by_cases hx : x = n
        · subst hx; exact .inr List.mem_cons_self
        · have : (x == n) = false := beq_eq_false_iff_ne.mpr hx
          rw [this] at h1; exact .inl h1
      · exact .inr (List.mem_cons_of_mem _ h1)
    · have hk' : (k == NameKind.free) = false := by simpa using hk
      simp only [hk', Bool.false_eq_true, if_false, pure_bind] at h
      rcases closure_in r _ cl h (fun x hx => hn x (List.mem_cons_of_mem _ hx)) x c e with h1 | h1
      · exact .inl h1
      · exact .inr (List.mem_cons_of_mem _ h1)

theorem closureFor_ok {env : Env} {scope : Scope} (h : ∀ x ∈ scope.names, x.2 = .free → ∃ c, env.cells.lookup x.1 = some c) :
    ∃ cl, closureFor scope env = pure cl ∧ (∀ x c, cl.lookup x = some c → env.cells.lookup x = some c) ∧ (∀ x, (x, NameKind.free) ∈ scope.names → (cl.lookup x).isSome = true) ∧
      (∀ x c, cl.lookup x = some c → (x, NameKind.free) ∈ scope.names) := by
  obtain ⟨cl, h1, h2, h3⟩ := closure_ok scope.names [] h (by intro x c e; simp at e)
  refine ⟨cl, ?_, h2, fun x hx => h3 x (.inr hx), fun x c e => ?_⟩
  · unfold closureFor
    refine Eq.trans ?_ (bind_pure _ |>.trans h1)
    congr 1
  · rcases closure_in scope.names [] cl h1 h x c e with h' | h'
    · simp at h'
    · exact h'

theorem comp_env {M : Model} {A : Around} {E : Value → Shared → Prop} {s : Shared} {scope : Scope} {globals : Addr} {cl : List (Str × Addr)} {qual : Str} {env : Env} {Q : Env → Shared → Prop}
    (hQ : Q (newEnv scope s.heap.objs.size globals (cellsFrom (s.heap.objs.size + 1) scope.names cl) qual none .none (some env) builtinsNs) { s with heap := pushCells (s.heap.push { cls := .type "dict", data := .dict #[] }) scope.names }) :
    wpAny M A (newFunctionEnv scope globals cl [] qual none .none (some env)) Q E s := by
  simp only [newFunctionEnv, Option.isSome_some, if_true]
  refine wpAny_bind (wpAny_alloc ?_)
  refine wpAny_bind (wpAny_layCells _ (fun name kind cells => by cases hkc : kind == NameKind.cell <;> simp [hkc]) _ _ _ _ ?_)
  rw [show ({ s with heap := s.heap.push { cls := .type "dict", data := .dict #[] } } : Shared).heap.objs.size = s.heap.objs.size + 1 from Heap.size_push ..]
  exact wpAny_bind (wpAny_pure (wpAny_pure hQ))

theorem relabel_get {env : Env} : ∀ {names : List (Str × NameKind)} {x : Str} {k : NameKind}, names.lookup x = some k → k ≠ .free →
    (names.map fun (n, k) => if (k == NameKind.free && env.scope.kind == .function && env.kindOf n == some .cell) then (n, NameKind.cell) else (n, k)).lookup x = some k
  | [], _, _, h, _ => by simp at h
  | (n, k) :: r, x, k', h, hf => by
    have ih := @relabel_get env r x k'
    show List.lookup x ((if (k == NameKind.free && env.scope.kind == .function && env.kindOf n == some .cell) = true then (n, NameKind.cell) else (n, k)) :: _) = _
    cases hx : x == n with
    | true =>
      simp only [List.lookup_cons, hx] at h
      cases h
      have : (k == NameKind.free) = false := by simpa using hf
      simp [List.lookup_cons, hx, this]
    | false =>
      simp only [List.lookup_cons, hx] at h
      by_cases hc : (k == NameKind.free && env.scope.kind == .function && env.kindOf n == some .cell) = true
      · rw [if_pos hc]; simp only [List.lookup_cons, hx]; exact ih h hf
      · rw [if_neg hc]; simp only [List.lookup_cons, hx]; exact ih h hf
theorem relabel_free {env : Env} : ∀ {names : List (Str × NameKind)} {x : Str}, names.lookup x = some .free →
    let z := (names.map fun (n, k) => if (k == NameKind.free && env.scope.kind == .function && env.kindOf n == some .cell) then (n, NameKind.cell) else (n, k)).lookup x
    z = some .free ∨ z = some .cell
  | [], _, h => by simp at h
  | (n, k) :: r, x, h => by
    have ih := @relabel_free env r x
    show List.lookup x ((if (k == NameKind.free && env.scope.kind == .function && env.kindOf n == some .cell) = true then (n, NameKind.cell) else (n, k)) :: _) = _ ∨ List.lookup x ((if (k == NameKind.free && env.scope.kind == .function && env.kindOf n == some .cell) = true then (n, NameKind.cell) else (n, k)) :: _) = _
    cases hx : x == n with
    | true =>
      simp only [List.lookup_cons, hx] at h
      cases h
      split <;> simp [List.lookup_cons, hx]
    | false =>
      simp only [List.lookup_cons, hx] at h
      have := ih h
      by_cases hc : (k == NameKind.free && env.scope.kind == .function && env.kindOf n == some .cell) = true
      · rw [if_pos hc]; simp only [List.lookup_cons, hx]; exact this
      · rw [if_neg hc]; simp only [List.lookup_cons, hx]; exact this

/-- what the scope says of the names -/
def Kn (env : Env) (sc : Scope) : Prop := ∀ x k, sc.names.lookup x = some k → env.kindOf x = some k ∨ (k = .free ∧ env.kindOf x = some .cell)
theorem Kn.of_eq {env : Env} {sc : Scope} (h : env.scope = sc) : Kn env sc := fun _ _ hx => .inl (kd h hx)
theorem Kn.s {env : Env} {sc : Scope} (h : Kn env sc) {x : Str} {k : NameKind} (hx : sc.names.lookup x = some k) (hk : k ≠ .free) : env.kindOf x = some k := by
  rcases h x k hx with h | ⟨h, _⟩
  · exact h
  · exact absurd h hk
theorem Kn.g {env : Env} {sc : Scope} (h : Kn env sc) {x : Str} (hx : sc.names.lookup x = some .globalImplicit) : env.kindOf x = some .globalImplicit := h.s hx (by decide)
theorem Kn.relabel {env : Env} {sc : Scope} (cells : List (Str × Addr)) {cenv : Env} (h : cenv.scope = relabel sc env) : Kn cenv sc := by
  intro x k hx
  show cenv.scope.names.lookup x = _ ∨ (_ ∧ cenv.scope.names.lookup x = _)
  rw [h]
  by_cases hk : k = .free
  · subst hk
    rcases relabel_free (env := env) hx with e | e
    · exact .inl e
    · exact .inr ⟨rfl, e⟩
  · exact .inl (relabel_get hx hk)

/-- a scope in order -/
structure ScOk (sc : Scope) : Prop where
  nd : (sc.names.map (·.1)).Nodup
  kind : sc.kind = .function
  one : (sc.names.filter fun p => p.2 == .cell).length ≤ 1
  ncd : ∀ p ∈ sc.names, (p.1 == ("__classdict__" : Str)) = false
theorem lookup_of_mem : ∀ {l : List (Str × NameKind)}, (l.map (·.1)).Nodup → ∀ {x : Str} {k : NameKind}, (x, k) ∈ l → l.lookup x = some k
  | [], _, x, k, h => nomatch h
  | (n, k') :: r, hnd, x, k, h => by
    have hnd' := List.nodup_cons.mp (by simpa using hnd : (n :: r.map (·.1)).Nodup)
    rw [List.lookup_cons]
    rcases List.mem_cons.mp h with e | h'
    · cases e; simp
    · have hne : x ≠ n := by rintro rfl; exact hnd'.1 (List.mem_map.mpr ⟨(x, k), h', rfl⟩)
      have : (x == n) = false := beq_eq_false_iff_ne.mpr hne
      rw [this]; exact lookup_of_mem hnd'.2 h'
theorem one_of {l : List (Str × NameKind)} (h : (l.filter fun p => p.2 == .cell).length ≤ 1) {a b : Str} (ha : (a, NameKind.cell) ∈ l) (hb : (b, NameKind.cell) ∈ l) : a = b := by
  have h1 : (a, NameKind.cell) ∈ l.filter fun p => p.2 == .cell := List.mem_filter.mpr ⟨ha, rfl⟩
  have h2 : (b, NameKind.cell) ∈ l.filter fun p => p.2 == .cell := List.mem_filter.mpr ⟨hb, rfl⟩
  match hf : (l.filter fun p => p.2 == .cell), h, h1, h2 with
  | [], _, h1, _ => rw [hf] at h1; cases h1
  | [p], _, h1, h2 =>
    rw [hf] at h1 h2
    have e1 := List.mem_singleton.mp h1
    have e2 := List.mem_singleton.mp h2
    exact congrArg Prod.fst (e1.trans e2.symm)
  | _ :: _ :: _, h, _, _ => rw [hf] at h; simp at h

/-- cells of different names are different -/
def Apart (env : Env) : Prop := ∀ x y c, env.cells.lookup x = some c → env.cells.lookup y = some c → x = y

theorem cellsFrom_cases : ∀ (names : List (Str × NameKind)) (L : Nat) (acc : List (Str × Addr)) (x : Str) (c : Addr), (cellsFrom L names acc).lookup x = some c →
    (L ≤ c ∧ (x, NameKind.cell) ∈ names) ∨ acc.lookup x = some c
  | [], L, acc, x, c, h => .inr h
  | (n, k) :: r, L, acc, x, c, h => by
    unfold cellsFrom at h
    split at h
    · rename_i hk
      have hk' : k = .cell := by simpa using hk
      rcases cellsFrom_cases r _ _ x c h with ⟨h1, h2⟩ | h1
      · exact .inl ⟨by omega, List.mem_cons_of_mem _ h2⟩
      · rw [List.lookup_cons] at h1
        by_cases hx : x = n
        · subst hx
          simp at h1; subst h1
          exact .inl ⟨Nat.le_refl _, by rw [hk']; exact List.mem_cons_self⟩
        · have : (x == n) = false := beq_eq_false_iff_ne.mpr hx
          rw [this] at h1; exact .inr h1
    · rcases cellsFrom_cases r _ _ x c h with ⟨h1, h2⟩ | h1
      · exact .inl ⟨h1, List.mem_cons_of_mem _ h2⟩
      · exact .inr h1

theorem cellsFrom_other : ∀ (names : List (Str × NameKind)) (L : Nat) (acc : List (Str × Addr)) (x : Str), (x, NameKind.cell) ∉ names → (cellsFrom L names acc).lookup x = acc.lookup x
  | [], _, _, _, _ => rfl
  | (n, k) :: r, L, acc, x, h => by
    unfold cellsFrom
    have hr : (x, NameKind.cell) ∉ r := fun q => h (List.mem_cons_of_mem _ q)
    split
    · rename_i hk
      have hk' : k = .cell := by simpa using hk
      rw [cellsFrom_other r _ _ x hr, List.lookup_cons]
      have hne : x ≠ n := by rintro rfl; exact h (by rw [hk']; exact List.mem_cons_self)
      have : (x == n) = false := beq_eq_false_iff_ne.mpr hne
      rw [this]
    · exact cellsFrom_other r _ _ x hr

theorem cellsFrom_isCell : ∀ (names : List (Str × NameKind)) (h : Heap) (acc : List (Str × Addr)), (∀ x c, acc.lookup x = some c → ∃ u, h.IsCell c u) →
    ∀ x c, (cellsFrom h.objs.size names acc).lookup x = some c → ∃ u, (pushCells h names).IsCell c u
  | [], h, acc, ha, x, c, e => ha x c e
  | (n, k) :: r, h, acc, ha, x, c, e => by
    unfold cellsFrom at e
    unfold pushCells
    split at e
    · rename_i hk
      rw [if_pos hk]
      have hs : (h.push { cls := .type "cell", data := .cell none }).objs.size = h.objs.size + 1 := Heap.size_push ..
      rw [← hs] at e
      refine cellsFrom_isCell r _ _ (fun y d ed => ?_) x c e
      rw [List.lookup_cons] at ed
      by_cases hy : y = n
      · subst hy
        simp at ed; subst ed
        exact ⟨none, _, Heap.get?_push_size _ rfl, rfl⟩
      · have : (y == n) = false := beq_eq_false_iff_ne.mpr hy
        rw [this] at ed
        obtain ⟨u, hu⟩ := ha y d ed
        exact ⟨u, hu.keeps fun b o e => Heap.get?_push_of_some _ e⟩
    · rename_i hk
      rw [if_neg hk]
      exact cellsFrom_isCell r _ _ ha x c e
end Mine
namespace Mine
open PySem PyProof.Rows PySem.Calls

/-- the variables of a comprehension: all flat -/
def FVars (env : Env) (G : List (Str × VP)) (h : Heap) : Prop := ∀ x P, G.lookup x = some P → Flat P ∧ ∃ v, Loc env h x v ∧ P.p h v
theorem FVars.vars {env : Env} {G : List (Str × VP)} {h : Heap} (x : FVars env G h) : Vars env G h := fun y P e => (x y P e).2
theorem FVars.up {env : Env} {G : List (Str × VP)} {h h' : Heap} (k : Kp h h') (x : FVars env G h) : FVars env G h' := fun y P e =>
  let ⟨f, v, l, p⟩ := x y P e; ⟨f, v, l.up k, f _ _ _ p⟩

/-- an object that is a list changes: the names stay -/
theorem Loc.seq {env : Env} {h h' : Heap} {x : Str} {v : Value} {D : Addr} (hs : Heap.SameBut D h h') (ho : ∃ o, h.get? D = some o ∧ isSeq o = true) (l : Loc env h x v) : Loc env h' x v := by
  obtain ⟨o, ho, hq⟩ := ho
  have hc : ∀ c u, h.IsCell c u → h'.IsCell c u := fun c u hi => hi.sameBut hs (by
    rintro rfl
    obtain ⟨o', h1, h2⟩ := hi
    rw [ho] at h1; cases h1; simp [isSeq, h2] at hq)
  rcases l with ⟨a, m, n, e⟩ | ⟨a, c, lk, e⟩ | ⟨a, d, c, lk, e⟩
  · refine .inl ⟨a, m, n.sameBut hs ?_, e⟩
    rintro rfl
    obtain ⟨o', es, ep, h1, h2, _⟩ := n
    rw [ho] at h1; cases h1; simp [isSeq, h2] at hq
  · exact .inr (.inl ⟨a, c, lk, hc _ _ e⟩)
  · exact .inr (.inr ⟨a, d, c, lk, hc _ _ e⟩)
theorem FVars.seq {env : Env} {G : List (Str × VP)} {h h' : Heap} {D : Addr} (x : FVars env G h) (hs : Heap.SameBut D h h') (ho : ∃ o, h.get? D = some o ∧ isSeq o = true) : FVars env G h' := fun y P e =>
  let ⟨f, v, l, p⟩ := x y P e; ⟨f, v, l.seq hs ho, f _ _ _ p⟩

theorem ns_same {h : Heap} {a : Addr} {m m' : Str → Option Value} (x : h.Ns a m) (y : h.Ns a m') : m = m' := by
  obtain ⟨o, es, ep, h1, h2, _, h4⟩ := x
  obtain ⟨o', es', ep', h1', h2', _, h4'⟩ := y
  rw [h1] at h1'; cases h1'
  rw [h2] at h2'; cases h2'
  first
    | (funext z; rw [← h4, ← h4'])
    | (funext z; rw [h4, h4'])
    | (rw [← h4, ← h4'])
    | (rw [h4, h4'])

structure CE (env : Env) : Prop extends EnvOk env where
  ap : Apart env

/-- the comprehension's own objects: its names, its cells -/
def own (h₁ : Heap) (env : Env) : List Addr := env.locals :: env.cells.filterMap fun p => match env.cells.lookup p.1 with | some c => if (h₁.get? c).isNone then some c else none | none => none
theorem mem_own {h₁ : Heap} {env : Env} {x : Str} {c : Addr} (hl : env.cells.lookup x = some c) (hc : h₁.get? c = none) : c ∈ own h₁ env :=
  List.mem_cons_of_mem _ (List.mem_filterMap.mpr ⟨(x, c), mem_of_lookup hl, by rw [hl]; simp [hc]⟩)
theorem own_fresh {h₁ : Heap} {env : Env} (hL : h₁.get? env.locals = none) : ∀ b ∈ own h₁ env, h₁.get? b = none := by
  intro b hb
  rcases List.mem_cons.mp hb with rfl | hb
  · exact hL
  · obtain ⟨p, hp, e⟩ := List.mem_filterMap.mp hb
    split at e
    · split at e
      · rename_i h; cases e; simpa using h
      · cases e
    · cases e
theorem own_cases {h₁ : Heap} {env : Env} {b : Addr} (hb : b ∈ own h₁ env) : b = env.locals ∨ ∃ x, env.cells.lookup x = some b := by
  rcases List.mem_cons.mp hb with rfl | hb
  · exact .inl rfl
  · obtain ⟨p, hp, e⟩ := List.mem_filterMap.mp hb
    split at e
    · split at e
      · rename_i c hc h; cases e; exact .inr ⟨p.1, hc⟩
      · cases e
    · cases e

/-- the state within a comprehension -/
structure CS (s₁ : Shared) (env : Env) (D : Addr) (G : List (Str × VP)) (J : Heap → List Value → Prop) (s : Shared) : Prop where
  same : ∃ h tk, s = { s₁ with heap := h, toks := tk }
  kp : Kp s₁.heap s.heap
  ns : ∃ m, s.heap.Ns env.locals m
  cells : ∀ x c, env.cells.lookup x = some c → ∃ u, s.heap.IsCell c u
  fv : FVars env G s.heap
  acc : ∃ ys : List Value, s.heap.PlainList D ys.toArray ∧ J s.heap ys

section
variable {prog : Program} {w : World} {A : Around} {E : Value → Shared → Prop} {s₁ s : Shared} {env : Env} {D : Addr} {G : List (Str × VP)} {J : Heap → List Value → Prop}

theorem PlainList.isSeq {h : Heap} {D : Addr} {ys : Array Value} (x : h.PlainList D ys) : ∃ o, h.get? D = some o ∧ isSeq o = true := by
  obtain ⟨n, ho⟩ := x
  exact ⟨_, ho, rfl⟩

/-- only J's list and the comprehension's own objects may change -/
def KM (mu : List Addr) (h h' : Heap) : Prop := ∀ b o, b ∉ mu → h.get? b = some o → (∀ vs, o.data ≠ .fields vs) → h'.get? b = some o
theorem KX.km {mu : List Addr} {h h' : Heap} (k : KX mu h h') : KM mu h h' := fun b o hb e _ => k b o hb e
def Jst (mu : List Addr) (J : Heap → List Value → Prop) : Prop := ∀ h h' ys, J h ys → KM mu h h' → J h' ys

theorem CS.up (C : CS s₁ env D G J s) (hJ : Jst (D :: own s₁.heap env) J) {h' : Heap} {tk : Nat} (k : Kp s.heap h') : CS s₁ env D G J { s with heap := h', toks := tk } := by
  obtain ⟨⟨h, t, rfl⟩, kp, ⟨m, ns⟩, cells, fv, ys, ha, hj⟩ := C
  exact ⟨⟨h', tk, rfl⟩, kp.tr k, ⟨m, ns.keeps k⟩, fun x c hc => let ⟨u, hu⟩ := cells x c hc; ⟨u, hu.keeps k⟩, fv.up k, ys, ha.at fun o e => k _ _ e, hJ _ _ _ hj k.kx.km⟩

theorem CS.sub (C : CS s₁ env D G J s) {G' : List (Str × VP)} (h : ∀ x P, G'.lookup x = some P → G.lookup x = some P) : CS s₁ env D G' J s := ⟨C.same, C.kp, C.ns, C.cells, fun x P e => C.fv x P (h x P e), C.acc⟩

theorem store_c {x : Str} {v : Value} {P : VP} {Q : Unit → Shared → Prop} (ce : CE env) (hD : s₁.heap.get? D = none) (hL : s₁.heap.get? env.locals = none) (C : CS s₁ env D G J s) (hJ : Jst (D :: own s₁.heap env) J)
    (hk : env.kindOf x = some .local ∨ (env.kindOf x = some .cell ∧ ∃ c, env.cells.lookup x = some c ∧ s₁.heap.get? c = none)) (hf : Flat P) (hp : P.p s.heap v)
    (k : ∀ s', CS s₁ env D ((x, P) :: G) J s' → KX (D :: own s₁.heap env) s.heap s'.heap → Q () s') : wpAny (model prog w) A (storeName env x v) Q E s := by
  obtain ⟨⟨h, t, rfl⟩, kp, ⟨m, ns⟩, cells, fv, ys, ha, hj⟩ := C
  obtain ⟨od, hod, hoq⟩ := PlainList.isSeq ha
  rcases hk with hk | ⟨hk, c, hc, hcf⟩
  · refine wpAny_storeName_local hk ns (fun h' hn hs => ?_) (by rw [ce.k]; rfl)
    obtain ⟨oL, es, ep, hoL, hdL, _⟩ := id ns
    have hDL : D ≠ env.locals := by rintro rfl; rw [hod] at hoL; cases hoL; simp [isSeq, hdL] at hoq
    have kx : KX (D :: own s₁.heap env) h h' := fun b o hb e => (hs.2 b (fun q => hb (q ▸ List.mem_cons_of_mem _ List.mem_cons_self))).trans e
    have hcell : ∀ c u, h.IsCell c u → h'.IsCell c u := fun c u hi => hi.sameBut hs (by
      rintro rfl
      obtain ⟨o', h1, h2⟩ := hi
      rw [hoL] at h1; cases h1; rw [hdL] at h2; cases h2)
    refine k _ ⟨⟨h', _, rfl⟩, fun b o e => kx b o ?_ (kp b o e), ⟨_, hn⟩, fun y c hc => let ⟨u, hu⟩ := cells y c hc; ⟨u, hcell c u hu⟩, fun y P' e => ?_, ys, ha.at fun o e => (hs.2 D hDL).trans e, hJ _ _ _ hj kx.km⟩ kx
    · intro hb
      rcases List.mem_cons.mp hb with rfl | hb
      · rw [hD] at e; cases e
      · rw [own_fresh hL b hb] at e; cases e
    · rcases lookup_cons_cases e with ⟨rfl, rfl⟩ | ⟨hne, e⟩
      · exact ⟨hf, v, .inl ⟨hk, _, hn, by simp⟩, hf _ _ _ hp⟩
      · obtain ⟨f, u, l, p⟩ := fv y P' e
        refine ⟨f, u, ?_, f _ _ _ p⟩
        rcases l with ⟨a, m', n', e'⟩ | ⟨a, c, lk, e'⟩ | ⟨a, d, c, lk, e'⟩
        · have := ns_same n' ns; subst this
          exact .inl ⟨a, _, hn, by simp [hne, e']⟩
        · exact .inr (.inl ⟨a, c, lk, hcell _ _ e'⟩)
        · exact .inr (.inr ⟨a, d, c, lk, hcell _ _ e'⟩)
  · obtain ⟨u₀, hu₀⟩ := cells x c hc
    refine wpAny_storeName_cell ce.k hk hc hu₀ fun h' hc' hs => ?_
    obtain ⟨oc, hoc, hdc⟩ := id hu₀
    have hDc : D ≠ c := by rintro rfl; rw [hod] at hoc; cases hoc; simp [isSeq, hdc] at hoq
    have kx : KX (D :: own s₁.heap env) h h' := fun b o hb e => (hs.2 b (fun q => hb (q ▸ List.mem_cons_of_mem _ (mem_own hc hcf)))).trans e
    have hLc : env.locals ≠ c := by
      rintro rfl
      obtain ⟨oL, es, ep, hoL, hdL, _⟩ := id ns
      rw [hoc] at hoL; cases hoL; rw [hdL] at hdc; cases hdc
    refine k { heap := h', gens := s₁.gens, drawn := s₁.drawn, toks := t, os := s₁.os } ⟨⟨h', _, rfl⟩, fun b o e => kx b o ?_ (kp b o e), ⟨m, ns.sameBut hs hLc⟩, fun y c' hc₂ => ?_, fun y P' e => ?_, ys, ha.at fun o e => (hs.2 D hDc).trans e, hJ _ _ _ hj kx.km⟩ kx
    · intro hb
      rcases List.mem_cons.mp hb with rfl | hb
      · rw [hD] at e; cases e
      · rw [own_fresh hL b hb] at e; cases e
    · by_cases hcc : c' = c
      · subst hcc; exact ⟨_, hc'⟩
      · obtain ⟨u, hu⟩ := cells y c' hc₂
        exact ⟨u, hu.sameBut hs hcc⟩
    · rcases lookup_cons_cases e with ⟨rfl, rfl⟩ | ⟨hne, e⟩
      · exact ⟨hf, v, .inr (.inl ⟨hk, c, hc, hc'⟩), hf _ _ _ hp⟩
      · obtain ⟨f, u, l, p⟩ := fv y P' e
        refine ⟨f, u, ?_, f _ _ _ p⟩
        rcases l with ⟨a, m', n', e'⟩ | ⟨a, c', lk, e'⟩ | ⟨a, d, c', lk, e'⟩
        · exact .inl ⟨a, m', n'.sameBut hs hLc, e'⟩
        · exact .inr (.inl ⟨a, c', lk, e'.sameBut hs (fun q => hne (ce.ap y x c (q ▸ lk) hc))⟩)
        · exact .inr (.inr ⟨a, d, c', lk, e'.sameBut hs (fun q => hne (ce.ap y x c (q ▸ lk) hc))⟩)

/-- one more item -/
theorem append_c {v : Value} {J' : Heap → List Value → Prop} {Q : Value → Shared → Prop} (C : CS s₁ env D G J s) (hD : s₁.heap.get? D = none)
    (hsz : ∀ h ys, J h ys → ys.length ≤ sizeLine) (hJ' : ∀ h' ys, J s.heap ys → KX (D :: own s₁.heap env) s.heap h' → J' h' (ys ++ [v]))
    (k : ∀ s', CS s₁ env D G J' s' → KX (D :: own s₁.heap env) s.heap s'.heap → Q .none s') : wpAny (model prog w) A (call (.builtin "list.append") [.ref D, v]) Q E s := by
  obtain ⟨⟨h, t, rfl⟩, kp, ⟨m, ns⟩, cells, fv, ys, ha, hj⟩ := C
  obtain ⟨od, hod, hoq⟩ := PlainList.isSeq ha
  refine wpAny_list_append_plain (hsz := by simpa using hsz _ _ hj) ha fun h' ha' hs => ?_
  have kx : KX (D :: own s₁.heap env) h h' := fun b o hb e => (hs.2 b (fun q => hb (q ▸ List.mem_cons_self))).trans e
  refine k { heap := h', gens := s₁.gens, drawn := s₁.drawn, toks := t, os := s₁.os } ⟨⟨h', t, rfl⟩, fun b o e => (hs.2 b (by rintro rfl; rw [hD] at e; cases e)).trans (kp b o e), ⟨m, ns.sameBut hs ?_⟩, fun y c hc => ?_, fv.seq hs ⟨od, hod, hoq⟩, ys ++ [v], by simpa using ha', hJ' _ _ hj kx⟩ kx
  · rintro rfl
    obtain ⟨oL, es, ep, hoL, hdL, _⟩ := id ns
    rw [hod] at hoL; cases hoL; simp [isSeq, hdL] at hoq
  · obtain ⟨u, hu⟩ := cells y c hc
    refine ⟨u, hu.sameBut hs ?_⟩
    rintro rfl
    obtain ⟨o', h1, h2⟩ := hu
    rw [hod] at h1; cases h1; simp [isSeq, h2] at hoq
end
end Mine
namespace Mine
open PySem PyProof.Rows PySem.Calls

section
variable {prog : Program} {w : World} {A : Around} {E : Value → Shared → Prop} {s₁ s : Shared} {env : Env} {D : Addr} {G : List (Str × VP)} {J : Heap → List Value → Prop}

/-- an iterator moves on -/
theorem CS.iter (C : CS s₁ env D G J s) (hJ : Jst (D :: own s₁.heap env) J) {I : Addr} (hI : s₁.heap.get? I = none) (hf : ∃ o vs, s.heap.get? I = some o ∧ o.data = .fields vs) {h' : Heap} {tk : Nat}
    (k : ∀ b o, b ∉ [I] → s.heap.get? b = some o → h'.get? b = some o) : CS s₁ env D G J { s with heap := h', toks := tk } := by
  obtain ⟨⟨h, t, rfl⟩, kp, ⟨m, ns⟩, cells, fv, ys, ha, hj⟩ := C
  obtain ⟨oI, vs, hoI, hdI⟩ := hf
  have kk : ∀ b o, h.get? b = some o → (∀ vs, o.data ≠ .fields vs) → h'.get? b = some o := fun b o e hn => k b o (fun hb => by
    have : b = I := by simpa using hb
    subst this; rw [hoI] at e; cases e; exact hn _ hdI) e
  have hns : ∀ m, h.Ns env.locals m → h'.Ns env.locals m := by
    rintro m ⟨o, es, ep, h1, h2, r⟩
    exact ⟨o, es, ep, kk _ _ h1 (fun vs e => by rw [h2] at e; cases e), h2, r⟩
  have hcell : ∀ c u, h.IsCell c u → h'.IsCell c u := by
    rintro c u ⟨o, h1, h2⟩
    exact ⟨o, kk _ _ h1 (fun vs e => by rw [h2] at e; cases e), h2⟩
  refine ⟨⟨h', tk, rfl⟩, fun b o e => k b o (fun hb => ?_) (kp b o e), ⟨m, hns m ns⟩, fun y c hc => let ⟨u, hu⟩ := cells y c hc; ⟨u, hcell c u hu⟩, fun y P e => ?_, ys, ?_, hJ _ _ _ hj fun b o _ e hn => kk b o e hn⟩
  · have : b = I := by simpa using hb
    subst this; rw [hI] at e; cases e
  · obtain ⟨f, v, l, p⟩ := fv y P e
    refine ⟨f, v, ?_, f _ _ _ p⟩
    rcases l with ⟨a, m', n', e'⟩ | ⟨a, c', lk, e'⟩ | ⟨a, d, c', lk, e'⟩
    · exact .inl ⟨a, m', hns _ n', e'⟩
    · exact .inr (.inl ⟨a, c', lk, hcell _ _ e'⟩)
    · exact .inr (.inr ⟨a, d, c', lk, hcell _ _ e'⟩)
  · obtain ⟨n, ho⟩ := ha
    exact ⟨n, kk _ _ ho (fun vs e => by cases e)⟩

theorem kxI {I : Addr} {mu : List Addr} {h h' : Heap} (k : ∀ b o, b ∉ [I] → h.get? b = some o → h'.get? b = some o) : KX (I :: mu) h h' := fun b o hb e => k b o (fun q => hb (by
  have : b = I := by simpa using q
  subst this; exact List.mem_cons_self)) e
def testsOf (ifs : List Expr) (env : Env) : Sem Bool := forIn ifs true fun c r => if r = true then do let ok ← isTrue c env (eval c env); pure (ForInStep.yield ok) else pure (ForInStep.yield r)

theorem comp_loop {elt : Expr} {gens : List Comprehension} {scope : Scope} {pos p px : Pos} {d : Nat} {x : Str} {ifs : List Expr} {emit : Sem Unit} {I : Addr} {fp : List Addr} {Pi : Nat → Value → Prop} {St : Nat → Heap → Prop} {items : List VP}
    {R : Result → Shared → Prop} (JJ : Nat → Heap → List Value → Prop)
    (hturn : compTurn (.ListComp elt gens scope pos) d (.ref I) (.ref D) env = (standAt p >>= fun _ => pyNext (.ref I) >>= fun r => match r with
      | none => pure (.done .next)
      | some v => letOwnedTupleGo (.Name x px) (.ref I) v >>= fun _ => assign (.Name x px) env v >>= fun _ => testsOf ifs env >>= fun ok => if ok = true then emit >>= fun _ => again (.compLoop (.ListComp elt gens scope pos) d (.ref I) (.ref D) env) else again (.compLoop (.ListComp elt gens scope pos) d (.ref I) (.ref D) env)))
    (ce : CE env) (hD : s₁.heap.get? D = none) (hL : s₁.heap.get? env.locals = none) (hI : s₁.heap.get? I = none)
    (hk : env.kindOf x = some .local ∨ (env.kindOf x = some .cell ∧ ∃ c, env.cells.lookup x = some c ∧ s₁.heap.get? c = none)) (hxG : G.lookup x = none)
    (W : Walks prog w A I fp [I] items.length Pi St) (st0 : St 0 s.heap) (hfp : ∀ b ∈ fp, b ∉ D :: own s₁.heap env) (hfld : ∀ i hh, St i hh → ∃ o vs, hh.get? I = some o ∧ o.data = .fields vs)
    (hit : ∀ i v, Pi i v → ∃ R, items[i]? = some R ∧ Flat R ∧ ∃ h, R.p h v)
    (hJ : ∀ i, Jst (D :: own s₁.heap env) (JJ i)) (C : CS s₁ env D G (JJ 0) s)
    (body : ∀ i R s, items[i]? = some R → CS s₁ env D ((x, R) :: G) (JJ i) s → ∀ (E' : Value → Shared → Prop) (Q' : Shared → Prop),
      (∀ s', CS s₁ env D ((x, R) :: G) (JJ (i + 1)) s' → KX (D :: own s₁.heap env) s.heap s'.heap → Q' s') →
      wpAny (model prog w) A (testsOf ifs env) (fun ok s' => if ok = true then wpAny (model prog w) A emit (fun _ s'' => Q' s'') E' s' else Q' s') E' s)
    (hR : ∀ s', CS s₁ env D G (JJ items.length) s' → KX (I :: D :: own s₁.heap env) s.heap s'.heap → R (.ok .next) s') :
    codeAny (model prog w) A (.compLoop (.ListComp elt gens scope pos) d (.ref I) (.ref D) env) R s := by
  refine codeAny_loop rfl (fun n s' => ∃ i, n = items.length + 1 - i ∧ i ≤ items.length ∧ CS s₁ env D G (JJ i) s' ∧ St i s'.heap ∧ KX (I :: D :: own s₁.heap env) s.heap s'.heap) (fun n s' hI' => ?_) (items.length + 1) ⟨0, rfl, Nat.zero_le _, C, st0, fun _ _ _ e => e⟩
  obtain ⟨i, rfl, hle, C', st, kx⟩ := hI'
  show wpAny _ A ((compTurn (.ListComp elt gens scope pos) d (.ref I) (.ref D) env).onRaise (fun x => do noteFrame x env; theTreesLotGoes x)) _ _ s'
  refine wpAny_noted ?_
  rw [hturn]
  refine wpAny_bind (wpAny_standAt (wpAny_bind ?_))
  by_cases hlt : i < items.length
  · refine W.item i _ _ _ hlt st fun v h' tk hPv st' kk => ?_
    have C2 := C'.iter (tk := tk) (hJ i) hI (hfld i _ st) kk
    obtain ⟨P, hP, hPf, hh, hPp⟩ := hit i v hPv
    refine wpAny_bind (wpAny_of_eq (show letOwnedTupleGo (.Name x px) (.ref I) v = pure () from rfl) (wpAny_bind (wpAny_assign_Name (store_c ce hD hL C2 (hJ i) hk hPf (hPf _ _ _ hPp) fun s3 C3 kx3 => wpAny_bind ?_))))
    have st3 : St (i + 1) s3.heap := W.frame _ _ _ st' fun b hb o e => kx3 b o (hfp b hb) e
    have kxi : KX (I :: D :: own s₁.heap env) s'.heap h' := kxI kk
    have fin : ∀ s4, CS s₁ env D ((x, P) :: G) (JJ (i + 1)) s4 → KX (D :: own s₁.heap env) s3.heap s4.heap →
        ∃ i', items.length + 1 - (i + 1) = items.length + 1 - i' ∧ i' ≤ items.length ∧ CS s₁ env D G (JJ i') s4 ∧ St i' s4.heap ∧ KX (I :: D :: own s₁.heap env) s.heap s4.heap := by
      intro s4 C4 kx4
      refine ⟨i + 1, rfl, hlt, C4.sub fun y Q e => ?_, W.frame _ _ _ st3 fun b hb o e => kx4 b o (hfp b hb) e, kx.tr (kxi.tr ((kx3.tr kx4).mono fun p hp => List.mem_cons_of_mem _ hp))⟩
      rw [List.lookup_cons]
      have : (y == x) = false := by
        rw [beq_eq_false_iff_ne]; rintro rfl; rw [hxG] at e; cases e
      rw [this]; exact e
    have hb := body i P s3 hP C3 (notedBy (model prog w) A env fun e s' => R (.error e) s') (fun s4 => ∃ i', items.length + 1 - (i + 1) = items.length + 1 - i' ∧ i' ≤ items.length ∧ CS s₁ env D G (JJ i') s4 ∧ St i' s4.heap ∧ KX (I :: D :: own s₁.heap env) s.heap s4.heap) fin
    refine wpAny_mono hb (fun ok s4 h4 => ?_) fun _ _ e => e
    cases ok with
    | true =>
      simp only [if_true] at h4 ⊢
      exact wpAny_bind (wpAny_mono h4 (fun _ s5 h5 => wpAny_pure ⟨rfl, _, by omega, h5⟩) fun _ _ e => e)
    | false =>
      simp only [Bool.false_eq_true, if_false] at h4 ⊢
      exact wpAny_pure ⟨rfl, _, by omega, h4⟩
  · have hin : i = items.length := by omega
    subst hin
    refine W.done _ _ _ st fun h' tk kk => wpAny_pure ?_
    refine hR _ (C'.iter (tk := tk) (hJ _) hI (hfld _ _ st) kk) (kx.tr (kxI kk))
end
end Mine
namespace Mine
open PySem PyProof.Rows PySem.Calls

section
variable {prog : Program} {w : World} {base : Heap} {A : Around} {E : Value → Shared → Prop} {s : Shared} {env : Env} {G : List (Str × VP)}

/-- a comprehension, whatever is done with its list -/
def cmpr (elt : Expr) (gens : List Comprehension) (scope : Scope) (pos : Pos) (env : Env) (use : Option (Value → Sem Unit)) : Sem Value :=
  comprehension (.ListComp elt gens scope pos) scope env (firstIterPos gens pos) (newList []) (firstAsync gens) (firstIter gens env) use

theorem wp_comp {use : Option (Value → Sem Unit)} {elt iter : Expr} {x : Str} {px pos : Pos} {ifs : List Expr} {rest : List Comprehension} {scope : Scope} {P : VP} {Q : Value → Shared → Prop} (items : List VP) (ce : CE env) (hb : Kp base s.heap) (hv : Vars env G s.heap)
    (hsc : ScOk scope) (hi : PE prog w base A env G iter P) (hit : ∀ h v, P.p h v → It prog w A [] items h v) (hfl : ∀ R ∈ items, Flat R)
    (Gf : Heap → List (Str × VP))
    (hGf : ∀ h₁, Kp base h₁ → ∀ y P', (Gf h₁).lookup y = some P' → Flat P' ∧ scope.names.lookup y = some .free ∧ ∃ P, G.lookup y = some P ∧ ∀ v, P.p h₁ v → P'.p h₁ v)
    (hfree : ∀ y, (y, NameKind.free) ∈ scope.names → env.kindOf y ≠ some .local ∧ ∃ P, G.lookup y = some P)
    (hx : scope.names.lookup x = some .local ∨ scope.names.lookup x = some .cell)
    (emit : Env → Addr → Sem Unit)
    (hturn : ∀ cenv I D, compTurn (.ListComp elt (⟨.Name x px, iter, ifs, 0⟩ :: rest) scope pos) 0 (.ref I) (.ref D) cenv = (standAt iter.pos >>= fun _ => pyNext (.ref I) >>= fun r => match r with
      | none => pure (.done .next)
      | some v => letOwnedTupleGo (.Name x px) (.ref I) v >>= fun _ => assign (.Name x px) cenv v >>= fun _ => testsOf ifs cenv >>= fun ok =>
        if ok = true then emit cenv D >>= fun _ => again (.compLoop (.ListComp elt (⟨.Name x px, iter, ifs, 0⟩ :: rest) scope pos) 0 (.ref I) (.ref D) cenv) else again (.compLoop (.ListComp elt (⟨.Name x px, iter, ifs, 0⟩ :: rest) scope pos) 0 (.ref I) (.ref D) cenv)))
    (JJ : Shared → Env → Addr → Nat → Heap → List Value → Prop)
    (hJ : ∀ s₁ cenv D i, Jst (D :: own s₁.heap cenv) (JJ s₁ cenv D i)) (hJ0 : ∀ s₁ cenv D h, JJ s₁ cenv D 0 h [])
    (body : ∀ s₁ cenv D, Kp base s₁.heap → CE cenv → Kn cenv scope → s₁.heap.get? D = none → s₁.heap.get? cenv.locals = none → (∀ y c, scope.names.lookup y = some .cell → cenv.cells.lookup y = some c → s₁.heap.get? c = none) →
      ∀ i R s, items[i]? = some R → CS s₁ cenv D ((x, R) :: Gf s₁.heap) (JJ s₁ cenv D i) s → ∀ (E' : Value → Shared → Prop) (Q' : Shared → Prop),
      (∀ s', CS s₁ cenv D ((x, R) :: Gf s₁.heap) (JJ s₁ cenv D (i + 1)) s' → KX (D :: own s₁.heap cenv) s.heap s'.heap → Q' s') →
      wpAny (model prog w) A (testsOf ifs cenv) (fun ok s' => if ok = true then wpAny (model prog w) A (emit cenv D) (fun _ s'' => Q' s'') E' s' else Q' s') E' s)
    (k : ∀ s₁ cenv D h' tk (ys : List Value), Kp s.heap s₁.heap → s₁.heap.get? D = none → Kp s₁.heap h' → h'.PlainList D ys.toArray → JJ s₁ cenv D items.length h' ys → s₁.heap.get? cenv.locals = none → (∃ m, h'.Ns cenv.locals m) →
      compPost (model prog w) A E use Q (.ref D) cenv.locals (.ok .next) { s with heap := h', toks := tk })
    (hs : ∀ v, foldedSetIterable iter env v = pure v := by intro _; rfl) :
    wpAny (model prog w) A (cmpr elt (⟨.Name x px, iter, ifs, 0⟩ :: rest) scope pos env use) Q E s := by
  -- the closure
  have hcells : ∀ y, (y, NameKind.free) ∈ scope.names → ∃ c v P, env.cells.lookup y = some c ∧ s.heap.IsCell c (some v) ∧ G.lookup y = some P ∧ P.p s.heap v := by
    intro y hy
    obtain ⟨hk, P, hP⟩ := hfree y hy
    obtain ⟨v, l, p⟩ := hv y P hP
    rcases l with ⟨a, _⟩ | ⟨_, c, lk, e⟩ | ⟨_, _, c, lk, e⟩
    · exact absurd a hk
    · exact ⟨c, v, P, lk, e, hP, p⟩
    · exact ⟨c, v, P, lk, e, hP, p⟩
  obtain ⟨cl, hclos, hcl1, hcl2, hcl3⟩ := closureFor_ok (env := env) (scope := scope) (fun y hy hf => by
    obtain ⟨c, v, P, h1, _⟩ := hcells y.1 (by rw [← hf]; exact hy)
    exact ⟨c, h1⟩)
  refine wpAny_comprehension_free (use := use) rfl hs hclos hsc.kind (fun y hy hl => lookup_of_mem hsc.nd (by rw [← hl]; exact hy)) ?_
  refine hi s _ E hb hv fun xv h1 t1 k1 p1 => ?_
  refine hit h1 xv p1 { s with heap := h1, toks := t1 } _ E Kp.rf (fun b hb => nomatch hb) fun I fp Pi St h2 t2 W st0 hfm hfp hI hfld k2 hitem => ?_
  refine wpAny_newObj_type (comp_env ?_)
  dsimp only
  generalize hH3 : (h2.push { cls := .type "list", dict := none, data := .seq ([] : List Value).toArray }) = h3
  have hs3 : h3.objs.size = h2.objs.size + 1 := by rw [← hH3, Heap.size_push]
  have k3 : Kp h2 h3 := by rw [← hH3]; exact Kp.push _ _
  have hD3 : h3.PlainList h2.objs.size #[] := ⟨_, by rw [← hH3]; exact Heap.get?_push_size _ rfl⟩
  generalize hce : ({ newEnv scope h3.objs.size env.globals (cellsFrom (h3.objs.size + 1) scope.names cl) env.qual none Value.none (some env) builtinsNs with scope := relabel scope env } : Env) = cenv
  have eL : cenv.locals = h3.objs.size := by rw [← hce]; rfl
  have eL' : (newEnv scope h3.objs.size env.globals (cellsFrom (h3.objs.size + 1) scope.names cl) env.qual none Value.none (some env) builtinsNs).locals = cenv.locals := by rw [← hce]
  have eC : cenv.cells = cellsFrom (h3.objs.size + 1) scope.names cl := by rw [← hce]; rfl
  have eS : cenv.scope = relabel scope env := by rw [← hce]
  rw [eL']
  generalize hD : h2.objs.size = D at hD3 hs3 ⊢
  have k13 : Kp h1 h3 := k2.tr k3
  have fresh : ∀ b, h3.objs.size ≤ b → h1.get? b = none := fun b hb => by
    cases e : h1.get? b with
    | none => rfl
    | some o => exact absurd (Heap.lt_size (k13 b o e)) (Nat.not_lt.mpr hb)
  have hDf : h1.get? D = none := by rw [← hD]; exact k2.none_of
  have hLf : h1.get? cenv.locals = none := by rw [eL]; exact fresh _ (Nat.le_refl _)
  generalize hH4 : pushCells (h3.push { cls := .type "dict", data := .dict #[] }) scope.names = h4
  have k4' : Kp (h3.push { cls := .type "dict", data := .dict #[] }) h4 := by rw [← hH4]; exact pushCells_keeps _ _
  have k4 : Kp h3 h4 := (Kp.push _ _).tr k4'
  have hclK : Kn cenv scope := Kn.relabel [] eS
  have clsome : ∀ y c, cl.lookup y = some c → ∃ o, h1.get? c = some o := by
    intro y c e
    obtain ⟨c', v, P, hc, hi0, _⟩ := hcells y (hcl3 y c e)
    rw [hcl1 y c e] at hc; cases hc
    obtain ⟨o, ho, _⟩ := hi0
    exact ⟨o, k1 _ _ ho⟩
  have hap : Apart cenv := by
    intro a b c ha hb'
    rw [eC] at ha hb'
    rcases cellsFrom_cases _ _ _ _ _ ha with ⟨ha1, ha2⟩ | ha1 <;> rcases cellsFrom_cases _ _ _ _ _ hb' with ⟨hb1, hb2⟩ | hb1
    · exact one_of hsc.one ha2 hb2
    · obtain ⟨o, e⟩ := clsome _ _ hb1
      rw [fresh c (by omega)] at e; cases e
    · obtain ⟨o, e⟩ := clsome _ _ ha1
      rw [fresh c (by omega)] at e; cases e
    · exact ce.ap a b c (hcl1 _ _ ha1) (hcl1 _ _ hb1)
  have hCE : CE cenv := ⟨⟨by rw [eS]; exact hsc.kind, by rw [← hce]; exact ce.g, by rw [← hce]; exact ce.b⟩, hap⟩
  have owncell : ∀ y c, scope.names.lookup y = some .cell → cenv.cells.lookup y = some c → h1.get? c = none := by
    intro y c hy hc
    rw [eC] at hc
    rcases cellsFrom_cases _ _ _ _ _ hc with ⟨h, _⟩ | h
    · exact fresh c (by omega)
    · have := lookup_of_mem hsc.nd (hcl3 y c h)
      rw [hy] at this; cases this
  have hcs : CS { s with heap := h1, toks := t1 } cenv D (Gf h1) (JJ { s with heap := h1, toks := t1 } cenv D 0) { s with heap := h4, toks := t2 } := by
    refine ⟨⟨h4, t2, rfl⟩, k13.tr k4, ⟨_, by rw [eL]; exact (Heap.Ns.new h3 (.type "dict")).keeps k4'⟩, fun y c hc => ?_, fun y P' e => ?_, [], hD3.at fun o e => k4 _ _ e, hJ0 _ _ _ _⟩
    · rw [eC] at hc
      have hsz : h3.objs.size + 1 = (h3.push { cls := .type "dict", data := .dict #[] }).objs.size := (Heap.size_push ..).symm
      rw [hsz] at hc
      rw [← hH4]
      refine cellsFrom_isCell _ _ _ (fun z d ez => ?_) y c hc
      obtain ⟨c', v, P, hc', hi0, _⟩ := hcells z (hcl3 z d ez)
      rw [hcl1 z d ez] at hc'; cases hc'
      exact ⟨_, hi0.keeps (k1.tr (k13.tr (Kp.push _ _)))⟩
    · obtain ⟨hPf, hfr, P, hP, himp⟩ := hGf h1 (hb.tr k1) y P' e
      have hmem : (y, NameKind.free) ∈ scope.names := mem_of_lookup hfr
      obtain ⟨c, v, P0, hc, hi0, hP0, hp0⟩ := hcells y hmem
      rw [hP] at hP0; cases hP0
      have hncell : (y, NameKind.cell) ∉ scope.names := fun q => by
        have := lookup_of_mem hsc.nd q
        rw [hfr] at this; cases this
      have hlk : cenv.cells.lookup y = some c := by
        rw [eC, cellsFrom_other _ _ _ _ hncell]
        obtain ⟨c', hc'⟩ := Option.isSome_iff_exists.mp (hcl2 y hmem)
        rw [hc', ← hcl1 _ _ hc', hc]
      have hcell : h4.IsCell c (some v) := hi0.keeps (k1.tr (k13.tr k4))
      refine ⟨hPf, v, ?_, hPf _ _ _ (himp v (P.up _ _ _ k1 hp0))⟩
      rcases hclK y .free hfr with hk | ⟨_, hk⟩
      · exact .inr (.inr ⟨hk, hsc.ncd _ hmem, c, hlk, hcell⟩)
      · exact .inr (.inl ⟨hk, c, hlk, hcell⟩)
  have hk : cenv.kindOf x = some .local ∨ (cenv.kindOf x = some .cell ∧ ∃ c, cenv.cells.lookup x = some c ∧ h1.get? c = none) := by
    rcases hx with hx | hx
    · exact .inl (hclK.s hx (by decide))
    · refine .inr ⟨hclK.s hx (by decide), ?_⟩
      have hsome : ((cellsFrom (h3.objs.size + 1) scope.names cl).lookup x).isSome = true := cells_names scope.names _ _ x (.inl hx)
      obtain ⟨c, hc⟩ := Option.isSome_iff_exists.mp hsome
      exact ⟨c, by rw [eC]; exact hc, owncell x c hx (by rw [eC]; exact hc)⟩
  have hxG : (Gf h1).lookup x = none := by
    cases e : (Gf h1).lookup x with
    | none => rfl
    | some P' =>
      obtain ⟨_, hfr, _⟩ := hGf h1 (hb.tr k1) x P' e
      rcases hx with hx | hx <;> (rw [hx] at hfr; cases hfr)
  have hIf : h1.get? I = none := hI
  have hfpm : ∀ b ∈ fp, b ∉ D :: own h1 cenv := by
    intro b hbf hbm
    have hlt := hfp b hbf
    rcases List.mem_cons.mp hbm with rfl | hbm
    · rw [← hD] at hlt; exact Nat.lt_irrefl _ hlt
    · rcases own_cases hbm with rfl | ⟨y, hy⟩
      · rw [eL, hs3, ← hD] at hlt; exact Nat.lt_irrefl _ (Nat.lt_of_succ_lt hlt)
      · rw [eC] at hy
        rcases cellsFrom_cases _ _ _ _ _ hy with ⟨h, _⟩ | h
        · rw [hs3, ← hD] at h; exact Nat.lt_irrefl _ (Nat.lt_of_lt_of_le hlt (Nat.le_of_succ_le (Nat.le_of_succ_le h)))
        · obtain ⟨o, e⟩ := clsome _ _ h
          rw [own_fresh hLf b hbm] at e; cases e
  have loop : codeAny (model prog w) A (.compLoop (.ListComp elt (⟨.Name x px, iter, ifs, 0⟩ :: rest) scope pos) 0 (.ref I) (.ref D) cenv) (compPost (model prog w) A E use Q (.ref D) cenv.locals) { s with heap := h4, toks := t2 } := by
    refine comp_loop (s₁ := { s with heap := h1, toks := t1 }) (JJ := JJ { s with heap := h1, toks := t1 } cenv D) (items := items) (fp := fp) (hturn cenv I D) hCE hDf hLf hIf hk hxG W (W.frame _ _ _ st0 fun b hbf o e => k4 _ _ (k3 _ _ e)) hfpm hfld
      (fun i v hPv => ?_) (hJ _ _ _) hcs (body _ cenv D (hb.tr k1) hCE hclK hDf hLf owncell) fun s' C' kx => ?_
    · obtain ⟨R, hR, hp⟩ := hitem i v hPv
      exact ⟨R, hR, hfl R (List.mem_of_getElem? hR), _, hp⟩
    · obtain ⟨⟨h', tk', rfl⟩, kp', ⟨m', ns'⟩, cells', fv', ys, ha, hj⟩ := C'
      exact k { s with heap := h1, toks := t1 } cenv D h' tk' ys k1 hDf kp' ha hj hLf ⟨m', ns'⟩
  exact codeAny_compStart_list loop (W.self 0 _ _ _ (W.frame _ _ _ st0 fun b hbf o e => k4 _ _ (k3 _ _ e)) loop)
end

/-- a comprehension gives a new list of which R holds -/
def PC (prog : Program) (w : World) (base : Heap) (A : Around) (env : Env) (G : List (Str × VP)) (elt : Expr) (gens : List Comprehension) (scope : Scope) (pos : Pos) (R : VP) : Prop :=
  ∀ (s : Shared) (Q : Value → Shared → Prop) (E : Value → Shared → Prop) (use : Option (Value → Sem Unit)), Kp base s.heap → Vars env G s.heap →
    (∀ D h' tk C, Kp s.heap h' → R.p h' (.ref D) → s.heap.get? C = none → (∃ m, h'.Ns C m) → compPost (model prog w) A E use Q (.ref D) C (.ok .next) { s with heap := h', toks := tk }) →
    wpAny (model prog w) A (cmpr elt gens scope pos env use) Q E s

theorem ks_ns {h h' : Heap} {C : Addr} {m : Str → Option Value} (hn : h.Ns C m) (hs : Heap.SameBut C h h') : Ks h h' := by
  obtain ⟨o, es, ep, h1, h2, _⟩ := hn
  exact ks_of_sameBut hs fun o' e => by rw [h1] at e; cases e; simp [isSeq, h2]

section
variable {prog : Program} {w : World} {base : Heap} {A : Around} {E : Value → Shared → Prop} {s₀ s : Shared} {env : Env} {G : List (Str × VP)}

theorem PC.pe {elt : Expr} {gens : List Comprehension} {scope : Scope} {pos : Pos} {R : VP} (h : PC prog w base A env G elt gens scope pos R) (hq : Sq R) : PE prog w base A env G (.ListComp elt gens scope pos) R := by
  intro s Q E hb hv k
  rw [eval_ListComp]
  refine h s Q E none hb hv fun D h' tk C kp hR hC ⟨m, hn⟩ => ⟨m, hn, fun h'' hs => ?_⟩
  exact k _ h'' tk (fun b o e => (hs.2 b (fun q => by subst q; rw [hC] at e; cases e)).trans (kp b o e)) (hq _ _ _ (ks_ns hn hs) hR)
theorem PC.congr {elt : Expr} {gens : List Comprehension} {scope : Scope} {pos : Pos} {R R' : VP} (h : PC prog w base A env G elt gens scope pos R) (e : R = R') : PC prog w base A env G elt gens scope pos R' := e ▸ h
theorem PC.weaken {elt : Expr} {gens : List Comprehension} {scope : Scope} {pos : Pos} {R R' : VP} (h : PC prog w base A env G elt gens scope pos R) (e : ∀ hp v, R.p hp v → R'.p hp v) : PC prog w base A env G elt gens scope pos R' :=
  fun s Q E use hb hv k => h s Q E use hb hv fun D h' tk C kp hR hC hn => k D h' tk C kp (e _ _ hR) hC hn

/-- an object that is none of the frame's and no list changes -/
theorem Fs.off (F : Fs s₀ env G s) {C : Addr} {m : Str → Option Value} {h' : Heap} {tk : Nat} (hn : s.heap.Ns C m) (hs : Heap.SameBut C s.heap h') (hC : C ∉ fa env) (hC0 : s₀.heap.get? C = none) : Fs s₀ env G { s with heap := h', toks := tk } := by
  have ks := ks_ns hn hs
  obtain ⟨m, cm, ⟨⟨same, ns, keep, fresh⟩, cell, apart, above⟩, hv⟩ := F.ic
  refine ⟨⟨m, cm, ⟨⟨?_, ns.sameBut hs (fun q => hC (q ▸ List.mem_cons_self)), fun b o e => (hs.2 b (fun q => by subst q; rw [hC0] at e; cases e)).trans (keep b o e), fresh⟩, fun n c hc => (cell n c hc).sameBut hs (fun q => hC (q ▸ lookup_mem_fa hc)), apart, above⟩, fun x P e => ?_⟩, F.sq⟩
  · obtain ⟨h, t, rfl⟩ := same
    exact ⟨h', tk, rfl⟩
  · obtain ⟨v, h1, h2⟩ := hv x P e
    exact ⟨v, h1, F.sq x P e _ _ _ ks h2⟩

/-- name = [..] -/
theorem ex_assignC {x : Str} {p' pos pos' : Pos} {elt : Expr} {gens : List Comprehension} {scope : Scope} {rest : List Stmt} {P : VP} {Q : Flow → Shared → Prop} (fe : FEnv env) (hb : Kp base s.heap) (F : Fs s₀ env G s)
    (hk : env.kindOf x = some .local) (hs : swapsWith (.ListComp elt gens scope pos') (some (.Name x p')) pos.line env = pure true) (hq : Sq P) (he : PC prog w base A env G elt gens scope pos' P)
    (k : ∀ h' tk, Kf env s.heap h' → Fs s₀ env ((x, P) :: G) { s with heap := h', toks := tk } → wpAny (model prog w) A (execs rest env) Q E { s with heap := h', toks := tk }) :
    wpAny (model prog w) A (execs (.Assign [.Name x p'] (.ListComp elt gens scope pos') pos :: rest) env) Q E s := by
  refine wpAny_execs_cons ?_
  rw [exec_Assign_Name_used _ _ _ _ hs]
  refine wpAny_bind (wpAny_standAt (wpAny_bind ?_))
  show wpAny _ A (do let _ ← cmpr elt gens scope pos' env (some (assign (.Name x p') env))) _ _ s
  refine wpAny_bind (wpAny_mono (he s (fun _ s' => wpAny (model prog w) A (execs rest env) Q E s') E (some (assign (.Name x p') env)) hb (F.vars fe) fun D h' tk C kp hR hC ⟨m, hn⟩ => ?_) (fun _ s' hq' => wpAny_pure (wpAny_pure hq')) fun _ _ e => e)
  have hCfa : C ∉ fa env := fun q => by obtain ⟨o, e, _⟩ := F.fa_some C q; rw [hC] at e; cases e
  have hC0 : s₀.heap.get? C = none := by
    cases e : s₀.heap.get? C with
    | none => rfl
    | some o => have := F.keep _ _ e; rw [hC] at this; cases this
  refine wpAny_assign_Name (store_ fe (F.up (tk := tk) kp) (.inl hk) hR hq fun h2 t2 kf F2 => ?_)
  have hn2 : h2.Ns C m := by
    obtain ⟨o, es, ep, ho, r⟩ := hn
    exact ⟨o, es, ep, kf.kx C o hCfa ho, r⟩
  refine ⟨m, hn2, fun h3 hs3 => k h3 t2 ?_ (F2.off hn2 hs3 hCfa hC0)⟩
  have ks3 := ks_ns hn2 hs3
  exact ⟨kp.ks.tr (kf.ks.tr ks3), fun b o hb e => (hs3.2 b (fun q => by subst q; rw [hC] at e; cases e)).trans (kf.kx b o hb (kp b o e))⟩
end
end Mine
namespace Mine
open PySem PyProof.Rows PySem.Calls

theorem Kp.none {h h' : Heap} (k : Kp h h') {r : Addr} (hr : h'.get? r = none) : h.get? r = none := by
  cases e : h.get? r with
  | none => rfl
  | some o => have := k _ _ e; rw [hr] at this; cases this
/-- a new plain list -/
theorem plainL_ks {h h' : Heap} {a : Addr} {us : Array Value} (k : Ks h h') (x : PlainL h a us) : PlainL h' a us := by
  obtain ⟨o, n, e, c, d, q⟩ := x
  exact ⟨o, n, k a o e (by simp [isSeq, q]), c, d, q⟩
def vlp (h₀ : Heap) (Ps : List VP) : VP := ⟨fun h v => ∃ (a : Addr) (us : List Value), v = .ref a ∧ h₀.get? a = none ∧ PlainL h a us.toArray ∧ All2 h us Ps,
  fun _ _ _ k ⟨a, us, e, n, l, x⟩ => ⟨a, us, e, n, plainL_ks k.ks l, x.up k⟩⟩
theorem sq_vlp {h₀ : Heap} {Ps : List VP} (hs : ∀ P ∈ Ps, Sq P) : Sq (vlp h₀ Ps) := fun _ _ _ k ⟨a, us, e, n, l, x⟩ => ⟨a, us, e, n, plainL_ks k l, x.sq k hs⟩
theorem vlp_vl {h₀ : Heap} {Ps : List VP} {h : Heap} {v : Value} (x : (vlp h₀ Ps).p h v) : (vl Ps).p h v := let ⟨a, us, e, _, l, y⟩ := x; ⟨a, us, e, l.isList, y⟩
theorem vlp_vln {h₀ : Heap} {Ps : List VP} {h : Heap} {v : Value} (x : (vlp h₀ Ps).p h v) : (vln h₀ Ps).p h v := let ⟨a, us, e, n, l, y⟩ := x; ⟨a, us, e, n, l.isList, y⟩

section
variable (prog : Program) (w : World) (base : Heap) (A : Around) (env : Env) (G : List (Str × VP))
/-- the tests of a clause come out as b -/
def Ts : List Expr → Bool → Prop
  | [], b => b = true
  | [t], b => PT prog w base A env G t b
  | _, _ => False
def Tn (ifs : List Expr) (elt : Expr) (out : List VP) : Prop := ∃ b, Ts prog w base A env G ifs b ∧ (b = true → ∃ V, out = [V] ∧ PE prog w base A env G elt V) ∧ (b = false → out = [])
end

theorem flatten_take_succ {α : Type} (l : List (List α)) (i : Nat) (o : List α) (h : l[i]? = some o) : (l.take (i + 1)).flatten = (l.take i).flatten ++ o := by
  rw [List.take_add_one, h]; simp
theorem all2_flat {h h' : Heap} : ∀ {us : List Value} {Ps : List VP}, (∀ P ∈ Ps, Flat P) → All2 h us Ps → All2 h' us Ps
  | [], [], _, _ => trivial
  | _ :: _, P :: _, f, ⟨x, r⟩ => ⟨f P (.head _) _ _ _ x, all2_flat (fun Q hQ => f Q (.tail _ hQ)) r⟩

section
variable {prog : Program} {w : World} {base : Heap} {A : Around} {E : Value → Shared → Prop} {s₁ s : Shared} {env : Env} {D : Addr} {G : List (Str × VP)} {J : Heap → List Value → Prop}

theorem tests_ok {ifs : List Expr} {b : Bool} {Q : Bool → Shared → Prop} (ht : Ts prog w s.heap A env G ifs b) (hv : Vars env G s.heap)
    (k : ∀ h' tk, Kp s.heap h' → Q b { s with heap := h', toks := tk }) : wpAny (model prog w) A (testsOf ifs env) Q E s := by
  match ifs, ht with
  | [], ht =>
    have : b = true := ht
    subst this
    exact wpAny_tests_nil (k s.heap s.toks Kp.rf)
  | [t], ht => exact wpAny_tests_one (PT_at ht hv k)
where
  PT_at {t : Expr} {b : Bool} {Q : Bool → Shared → Prop} (ht : PT prog w s.heap A env G t b) (hv : Vars env G s.heap) (k : ∀ h' tk, Kp s.heap h' → Q b { s with heap := h', toks := tk }) :
    wpAny (model prog w) A (isTrue t env (eval t env)) Q E s := ht s Q E Kp.rf hv k

/-- a turn of the innermost clause, all flat -/
theorem turn_flat {ifs : List Expr} {elt : Expr} {out os : List VP} (hD : s₁.heap.get? D = none) (C : CS s₁ env D G (fun h ys => All2 h ys os) s)
    (hos : ∀ P ∈ os, Flat P) (hout : ∀ P ∈ out, Flat P) (hsz : os.length ≤ sizeLine)
    (ht : ∀ base'', Kp s₁.heap base'' → Tn prog w base'' A env G ifs elt out) (E' : Value → Shared → Prop) (Q' : Shared → Prop)
    (k : ∀ s', CS s₁ env D G (fun h ys => All2 h ys (os ++ out)) s' → KX (D :: own s₁.heap env) s.heap s'.heap → Q' s') :
    wpAny (model prog w) A (testsOf ifs env) (fun ok s' => if ok = true then wpAny (model prog w) A (eval elt env >>= fun v => call (.builtin "list.append") [.ref D, v] >>= fun _ => pure ()) (fun _ s'' => Q' s'') E' s' else Q' s') E' s := by
  have hJ : Jst (D :: own s₁.heap env) (fun h ys => All2 h ys os) := fun h h' ys hj _ => all2_flat hos hj
  obtain ⟨b, hb, h1, h0⟩ := ht s.heap C.kp
  refine tests_ok hb C.fv.vars fun h' tk kk => ?_
  have C1 := C.up (tk := tk) hJ kk
  cases b with
  | false =>
    simp only [Bool.false_eq_true, if_false]
    have : out = [] := h0 rfl
    subst this
    refine k _ ⟨C1.same, C1.kp, C1.ns, C1.cells, C1.fv, ?_⟩ kk.kx
    obtain ⟨ys, a, j⟩ := C1.acc
    exact ⟨ys, a, by simpa using j⟩
  | true =>
    simp only [if_true]
    obtain ⟨V, rfl, hV⟩ := h1 rfl
    refine wpAny_bind (hV _ _ _ kk C1.fv.vars fun v h2 t2 k2 p2 => wpAny_bind ?_)
    have C2 := C1.up (tk := t2) hJ k2
    refine append_c C2 hD (fun h ys hj => by rw [hj.length]; exact hsz) (J' := fun h ys => All2 h ys (os ++ [V])) (fun h3 ys hj _ => (all2_flat hos hj).append ⟨hout V (by simp) _ _ _ p2, trivial⟩) fun s3 C3 kx3 => ?_
    exact wpAny_pure (k _ C3 ((kk.tr k2).kx.tr kx3))

theorem PC.comp1 {elt iter : Expr} {x : Str} {px pos : Pos} {ifs : List Expr} {scope : Scope} {P : VP} (items : List VP) (outs : List (List VP)) (ce : CE env)
    (hsc : ScOk scope) (hi : PE prog w base A env G iter P) (hit : ∀ h v, P.p h v → It prog w A [] items h v) (hfl : ∀ R ∈ items, Flat R)
    (Gf : Heap → List (Str × VP))
    (hGf : ∀ h₁, Kp base h₁ → ∀ y P', (Gf h₁).lookup y = some P' → Flat P' ∧ scope.names.lookup y = some .free ∧ ∃ P, G.lookup y = some P ∧ ∀ v, P.p h₁ v → P'.p h₁ v)
    (hfree : ∀ y, (y, NameKind.free) ∈ scope.names → env.kindOf y ≠ some .local ∧ ∃ P, G.lookup y = some P)
    (hx : scope.names.lookup x = some .local ∨ scope.names.lookup x = some .cell)
    (hlen : outs.length = items.length) (hofl : ∀ o ∈ outs, ∀ P ∈ o, Flat P) (hosz : outs.flatten.length ≤ sizeLine)
    (el : ∀ (base' : Heap) (cenv : Env) (base'' : Heap) (i : Nat) (R : VP) (out : List VP), Kp base base' → CE cenv → Kn cenv scope → Kp base' base'' → items[i]? = some R → outs[i]? = some out → Tn prog w base'' A cenv ((x, R) :: Gf base') ifs elt out)
    (hs : ∀ v, foldedSetIterable iter env v = pure v := by intro _; rfl) :
    PC prog w base A env G elt [⟨.Name x px, iter, ifs, 0⟩] scope pos (vlp base outs.flatten) := by
  intro s Q E use hb hv k
  have hfo : ∀ i, ∀ P ∈ (outs.take i).flatten, Flat P := fun i P hP => by
    obtain ⟨o, ho, hPo⟩ := List.mem_flatten.mp hP
    exact hofl o (List.mem_of_mem_take ho) P hPo
  have hle : ∀ i, (outs.take i).flatten.length ≤ outs.flatten.length := fun i => by
    have e : outs.flatten = (outs.take i).flatten ++ (outs.drop i).flatten := by rw [← List.flatten_append, List.take_append_drop]
    rw [e, List.length_append]; omega
  refine wp_comp (base := base) items ce hb hv hsc hi hit hfl Gf hGf hfree hx (fun cenv D => eval elt cenv >>= fun v => call (.builtin "list.append") [.ref D, v] >>= fun _ => pure ()) (by intro cenv I D; rfl)
    (fun _ _ _ i h ys => All2 h ys (outs.take i).flatten) (fun s₁ cenv D i h h' ys hj _ => all2_flat (hfo i) hj) (fun _ _ _ _ => trivial) ?_ ?_ hs
  · intro s₁ cenv D kb hce hkn hD hL hown i R s2 hR C E' Q' kk
    obtain ⟨out, hout⟩ : ∃ out, outs[i]? = some out := by
      have := (List.getElem?_eq_some_iff.mp hR).1
      exact ⟨outs[i]'(by omega), List.getElem?_eq_getElem _⟩
    refine turn_flat (out := out) hD C (hfo i) (hofl out (List.mem_of_getElem? hout)) (Nat.le_trans (hle i) hosz) (fun base'' kb'' => el _ cenv base'' i R out kb hce hkn kb'' hR hout) E' Q' fun s3 C3 kx3 => kk s3 ?_ kx3
    have e := flatten_take_succ outs i out hout
    exact ⟨C3.same, C3.kp, C3.ns, C3.cells, C3.fv, let ⟨ys, a, j⟩ := C3.acc; ⟨ys, a, by rw [e]; exact j⟩⟩
  · intro s₁ cenv D h' tk ys k1 hD k2 ha hj hL hN
    rw [← hlen, List.take_length] at hj
    obtain ⟨nn, ho⟩ := ha
    exact k _ h' tk _ (k1.tr k2) ⟨D, ys, rfl, (hb.tr k1).none hD, ⟨_, nn, ho, rfl, rfl, rfl⟩, hj⟩ (k1.none hL) hN
end
end Mine
namespace Mine
open PySem PyProof.Rows PySem.Calls

theorem turn2 (elt iter iter2 : Expr) (x x2 : Str) (px px2 pos : Pos) (ifs ifs2 : List Expr) (scope : Scope) (I D : Addr) (cenv : Env) : 
  compTurn (.ListComp elt [⟨.Name x px, iter, ifs, 0⟩, ⟨.Name x2 px2, iter2, ifs2, 0⟩] scope pos) 0 (.ref I) (.ref D) cenv = (standAt iter.pos >>= fun _ => pyNext (.ref I) >>= fun r => match r with
      | none => pure (.done .next)
      | some v => letOwnedTupleGo (.Name x px) (.ref I) v >>= fun _ => assign (.Name x px) cenv v >>= fun _ => testsOf ifs cenv >>= fun ok =>
        if ok = true then eval iter2 cenv >>= fun v => standAt iter2.pos >>= fun _ => foldedSetIterable iter2 cenv v >>= fun v => holding [v] (pyIter v) >>= fun it =>
      runOwn (.compStart (.ListComp elt [⟨.Name x px, iter, ifs, 0⟩, ⟨.Name x2 px2, iter2, ifs2, 0⟩] scope pos) 1 it (.ref D) cenv) cenv >>= fun _ => again (.compLoop (.ListComp elt [⟨.Name x px, iter, ifs, 0⟩, ⟨.Name x2 px2, iter2, ifs2, 0⟩] scope pos) 0 (.ref I) (.ref D) cenv)
        else again (.compLoop (.ListComp elt [⟨.Name x px, iter, ifs, 0⟩, ⟨.Name x2 px2, iter2, ifs2, 0⟩] scope pos) 0 (.ref I) (.ref D) cenv)) := by rfl

section
variable {prog : Program} {w : World} {base : Heap} {A : Around} {E : Value → Shared → Prop} {R : Result → Shared → Prop} {s₁ s : Shared} {env : Env} {D : Addr} {G : List (Str × VP)} {J : Heap → List Value → Prop}

theorem start1 {elt : Expr} {g : Comprehension} {target iter : Expr} {ifs : List Expr} {rest : List Comprehension} {scope : Scope} {pos : Pos} {it acc : Value}
    (h0 : codeAny (model prog w) A (.compLoop (.ListComp elt (g :: ⟨target, iter, ifs, 0⟩ :: rest) scope pos) 1 it acc env) R s)
    (h : wpAny (model prog w) A (pyIter it) (fun it' s' => codeAny (model prog w) A (.compLoop (.ListComp elt (g :: ⟨target, iter, ifs, 0⟩ :: rest) scope pos) 1 it' acc env) R s')
      (notedBy (model prog w) A env fun x s' => R (.error x) s') s) :
    codeAny (model prog w) A (.compStart (.ListComp elt (g :: ⟨target, iter, ifs, 0⟩ :: rest) scope pos) 1 it acc env) R s := by
  refine codeAny_of_tree ?_
  show wpAny _ _ ((compStart (.ListComp elt (g :: ⟨target, iter, ifs, 0⟩ :: rest) scope pos) 1 it acc env).onRaise (fun x => do noteFrame x env; standAt theWindowsPlace)) _ _ s
  refine wpAny_notedAt ?_
  unfold compStart
  show wpAny _ _ (ask >>= _) _ _ s
  refine wpAny_bind (wpAny_askSetting (wpAny_ite ?_))
  split
  · first
      | exact wpAny_bind (wpAny_pure (wpAny_pure (And.intro rfl h0)))
      | exact wpAny_pure (And.intro rfl h0)
  · refine wpAny_bind (wpAny_rule ?_)
    show wpAny _ _ (standAt iter.pos >>= _) _ _ s
    exact wpAny_bind (wpAny_standAt (wpAny_bind (wpAny_mono h (fun it' s' h' => wpAny_pure (And.intro rfl h')) fun _ _ x => x)))

theorem flat_app {a b : List VP} (ha : ∀ P ∈ a, Flat P) (hb : ∀ P ∈ b, Flat P) : ∀ P ∈ a ++ b, Flat P := fun P hP => by
  rcases List.mem_append.mp hP with h | h
  · exact ha P h
  · exact hb P h
/-- what the second clause does -/
def Cl2 (prog : Program) (w : World) (A : Around) (cenv : Env) (base' : Heap) (G : List (Str × VP)) (x2 : Str) (iter2 : Expr) (ifs2 : List Expr) (elt : Expr) (out : List VP) : Prop :=
  ∀ base'', Kp base' base'' → ∃ (P2 : VP) (items2 : List VP) (outs2 : List (List VP)), PE prog w base'' A cenv G iter2 P2 ∧
    (∀ h v mu, P2.p h v → (∀ b ∈ mu, base'.get? b = none ∧ ∃ o, base''.get? b = some o) → It prog w A mu items2 h v) ∧ (∀ R ∈ items2, Flat R) ∧ out = outs2.flatten ∧ outs2.length = items2.length ∧
    ∀ (base3 : Heap) (j : Nat) (R2 : VP) (out2 : List VP), Kp base' base3 → items2[j]? = some R2 → outs2[j]? = some out2 → Tn prog w base3 A cenv ((x2, R2) :: G) ifs2 elt out2

theorem PC.comp2 {elt iter iter2 : Expr} {x x2 : Str} {px px2 pos : Pos} {ifs ifs2 : List Expr} {scope : Scope} {P : VP} (items : List VP) (outs : List (List VP)) (ce : CE env)
    (hsc : ScOk scope) (hi : PE prog w base A env G iter P) (hit : ∀ h v, P.p h v → It prog w A [] items h v) (hfl : ∀ R ∈ items, Flat R)
    (Gf : Heap → List (Str × VP))
    (hGf : ∀ h₁, Kp base h₁ → ∀ y P', (Gf h₁).lookup y = some P' → Flat P' ∧ scope.names.lookup y = some .free ∧ ∃ P, G.lookup y = some P ∧ ∀ v, P.p h₁ v → P'.p h₁ v)
    (hfree : ∀ y, (y, NameKind.free) ∈ scope.names → env.kindOf y ≠ some .local ∧ ∃ P, G.lookup y = some P)
    (hx : scope.names.lookup x = some .local) (hx2 : scope.names.lookup x2 = some .local) (hne : (x2 == x) = false)
    (hlen : outs.length = items.length) (hofl : ∀ o ∈ outs, ∀ P ∈ o, Flat P) (hosz : outs.flatten.length ≤ sizeLine)
    (el : ∀ (base' : Heap) (cenv : Env) (i : Nat) (R : VP) (out : List VP), Kp base base' → CE cenv → Kn cenv scope → items[i]? = some R → outs[i]? = some out →
      ∃ b, (∀ base'', Kp base' base'' → Ts prog w base'' A cenv ((x, R) :: Gf base') ifs b) ∧ (b = true → Cl2 prog w A cenv base' ((x, R) :: Gf base') x2 iter2 ifs2 elt out) ∧ (b = false → out = []))
    (hs : ∀ v, foldedSetIterable iter env v = pure v := by intro _; rfl) (hs2 : ∀ cenv v, foldedSetIterable iter2 cenv v = pure v := by intro _ _; rfl) :
    PC prog w base A env G elt [⟨.Name x px, iter, ifs, 0⟩, ⟨.Name x2 px2, iter2, ifs2, 0⟩] scope pos (vlp base outs.flatten) := by
  intro s Q E use hb hv k
  have hfo : ∀ i, ∀ P ∈ (outs.take i).flatten, Flat P := fun i P hP => by
    obtain ⟨o, ho, hPo⟩ := List.mem_flatten.mp hP
    exact hofl o (List.mem_of_mem_take ho) P hPo
  have hle : ∀ i, (outs.take i).flatten.length ≤ outs.flatten.length := fun i => by
    have e : outs.flatten = (outs.take i).flatten ++ (outs.drop i).flatten := by rw [← List.flatten_append, List.take_append_drop]
    rw [e, List.length_append]; omega
  refine wp_comp (base := base) items ce hb hv hsc hi hit hfl Gf hGf hfree (.inl hx) (fun cenv D => eval iter2 cenv >>= fun v => standAt iter2.pos >>= fun _ => foldedSetIterable iter2 cenv v >>= fun v => holding [v] (pyIter v) >>= fun it =>
      runOwn (.compStart (.ListComp elt [⟨.Name x px, iter, ifs, 0⟩, ⟨.Name x2 px2, iter2, ifs2, 0⟩] scope pos) 1 it (.ref D) cenv) cenv >>= fun _ => pure ()) (by intro cenv I D; rw [turn2]; simp only [bind_assoc, pure_bind]; try rfl)
    (fun _ _ _ i h ys => All2 h ys (outs.take i).flatten) (fun s₁ cenv D i h h' ys hj _ => all2_flat (hfo i) hj) (fun _ _ _ _ => trivial) ?_ ?_ hs
  · intro s₁ cenv D kb hce hkn hD hL hown i R s2 hR C E' Q' kk
    obtain ⟨out, hout⟩ : ∃ out, outs[i]? = some out := by
      have := (List.getElem?_eq_some_iff.mp hR).1
      exact ⟨outs[i]'(by omega), List.getElem?_eq_getElem _⟩
    have e := flatten_take_succ outs i out hout
    have hos := hfo i
    have hofl' := hofl out (List.mem_of_getElem? hout)
    obtain ⟨b, hb, h1, h0⟩ := el s₁.heap cenv i R out kb hce hkn hR hout
    have hJ : Jst (D :: own s₁.heap cenv) (fun h ys => All2 h ys (outs.take i).flatten) := fun h h' ys hj _ => all2_flat hos hj
    refine tests_ok (hb s2.heap C.kp) C.fv.vars fun h3 t3 k3 => ?_
    have C3 := C.up (tk := t3) hJ k3
    cases b with
    | false =>
      simp only [Bool.false_eq_true, if_false]
      have : out = [] := h0 rfl
      subst this
      refine kk _ ⟨C3.same, C3.kp, C3.ns, C3.cells, C3.fv, ?_⟩ k3.kx
      obtain ⟨ys, a, j⟩ := C3.acc
      exact ⟨ys, a, by rw [e]; simpa using j⟩
    | true =>
      simp only [if_true]
      obtain ⟨P2, items2, outs2, hi2, hit2, hfl2, rfl, hlen2, htn⟩ := h1 rfl h3 C3.kp
      refine wpAny_bind (hi2 _ _ _ Kp.rf C3.fv.vars fun v4 h4 t4 k4 p4 => wpAny_bind (wpAny_standAt (wpAny_bind (wpAny_of_eq (hs2 cenv v4) (wpAny_bind (wpAny_holding ?_))))))
      have C4 := C3.up (tk := t4) hJ k4
      have hmu : ∀ b ∈ D :: own s₁.heap cenv, s₁.heap.get? b = none ∧ ∃ o, h3.get? b = some o := by
        intro b hbm
        rcases List.mem_cons.mp hbm with rfl | hbm
        · obtain ⟨ys, ha, _⟩ := C3.acc
          obtain ⟨o, ho, _⟩ := PlainList.isSeq ha
          exact ⟨hD, o, ho⟩
        · refine ⟨own_fresh hL b hbm, ?_⟩
          rcases own_cases hbm with rfl | ⟨y, hy⟩
          · obtain ⟨m, o, es, ep, ho, _⟩ := C3.ns
            exact ⟨o, ho⟩
          · obtain ⟨u, o, ho, _⟩ := C3.cells y b hy
            exact ⟨o, ho⟩
      refine hit2 h4 v4 (D :: own s₁.heap cenv) p4 hmu _ _ _ Kp.rf (fun b hbm => let ⟨_, o, ho⟩ := hmu b hbm; ⟨o, k4 _ _ ho⟩) fun I fp Pi St h5 t5 W st0 hfm hfp hI hfld k5 hitem => ?_
      have C5 := C4.up (tk := t5) hJ k5
      refine wpAny_bind (wpAny_runOwn ?_)
      have hIf : s₁.heap.get? I = none := by
        cases e : s₁.heap.get? I with
        | none => rfl
        | some o => have := C4.kp _ _ e; rw [hI] at this; cases this
      have hfo2 : ∀ i, ∀ P ∈ (outs2.take i).flatten, Flat P := fun i P hP => by
        obtain ⟨o, ho, hPo⟩ := List.mem_flatten.mp hP
        exact hofl' P (List.mem_flatten.mpr ⟨o, List.mem_of_mem_take ho, hPo⟩)
      have hle2 : ∀ i, (outs2.take i).flatten.length ≤ outs2.flatten.length := fun i => by
        have e : outs2.flatten = (outs2.take i).flatten ++ (outs2.drop i).flatten := by rw [← List.flatten_append, List.take_append_drop]
        rw [e, List.length_append]; omega
      have hsz2 : ((outs.take i).flatten ++ outs2.flatten).length ≤ sizeLine := by rw [← e]; exact Nat.le_trans (hle _) hosz
      have hxG : ((x, R) :: Gf s₁.heap).lookup x2 = none := by
        rw [List.lookup_cons, hne]
        cases e : (Gf s₁.heap).lookup x2 with
        | none => rfl
        | some P' =>
          obtain ⟨_, hfr, _⟩ := hGf _ kb x2 P' e
          rw [hx2] at hfr; cases hfr
      have loop : codeAny (model prog w) A (.compLoop (.ListComp elt [⟨.Name x px, iter, ifs, 0⟩, ⟨.Name x2 px2, iter2, ifs2, 0⟩] scope pos) 1 (.ref I) (.ref D) cenv)
          (fun r s' => match r with | .ok f => wpAny (model prog w) A (pure () : Sem Unit) (fun _ s'' => Q' s'') E' s' | .error e => cameBackBy (model prog w) A cenv E' e s') { s2 with heap := h5, toks := t5 } := by
        refine comp_loop (elt := elt) (gens := [⟨.Name x px, iter, ifs, 0⟩, ⟨.Name x2 px2, iter2, ifs2, 0⟩]) (scope := scope) (pos := pos) (d := 1) (s₁ := s₁) (JJ := fun j h ys => All2 h ys ((outs.take i).flatten ++ (outs2.take j).flatten)) (items := items2) (fp := fp) (x := x2) (px := px2) (p := iter2.pos) (ifs := ifs2)
          (emit := eval elt cenv >>= fun v => call (.builtin "list.append") [.ref D, v] >>= fun _ => pure ()) (by rfl) hce hD hL hIf (.inl (hkn.s hx2 (by decide))) hxG W st0 hfm hfld
          (fun j v hPv => ?_) (fun j h h' ys hj _ => all2_flat (flat_app hos (hfo2 j)) hj) (by simpa using C5) ?_ ?_
        · obtain ⟨R2, hR2, hp⟩ := hitem j v hPv
          exact ⟨R2, hR2, hfl2 R2 (List.mem_of_getElem? hR2), _, hp⟩
        · intro j R2 s6 hR2 C6 E6 Q6 k6
          obtain ⟨out2, hout2⟩ : ∃ out2, outs2[j]? = some out2 := by
            have := (List.getElem?_eq_some_iff.mp hR2).1
            exact ⟨outs2[j]'(by omega), List.getElem?_eq_getElem _⟩
          have e2 := flatten_take_succ outs2 j out2 hout2
          refine turn_flat (out := out2) hD C6 (flat_app hos (hfo2 j)) (fun P hP => hofl' P (List.mem_flatten.mpr ⟨out2, List.mem_of_getElem? hout2, hP⟩)) ?_
            (fun base'' kb'' => htn base'' j R2 out2 kb'' hR2 hout2) E6 Q6 fun s7 C7 kx7 => k6 s7 ?_ kx7
          · refine Nat.le_trans ?_ hsz2
            simp only [List.length_append]
            have := hle2 j; omega
          · exact ⟨C7.same, C7.kp, C7.ns, C7.cells, C7.fv, let ⟨ys, a, jj⟩ := C7.acc; ⟨ys, a, by rw [e2, ← List.append_assoc]; exact jj⟩⟩
        · intro s7 C7 kx7
          refine wpAny_pure (kk _ ?_ ?_)
          · refine ⟨C7.same, C7.kp, C7.ns, C7.cells, C7.fv, ?_⟩
            obtain ⟨ys, a, jj⟩ := C7.acc
            refine ⟨ys, a, ?_⟩
            rw [← hlen2, List.take_length] at jj
            rw [e]; exact jj
          · intro b o hbm eb
            refine kx7 b o (fun hm => ?_) (k5 _ _ (k4 _ _ (k3 _ _ eb)))
            rcases List.mem_cons.mp hm with rfl | hm
            · have := k4 _ _ (k3 _ _ eb); rw [hI] at this; cases this
            · exact hbm hm
      exact start1 loop (W.self 0 _ _ _ st0 loop)
  · intro s₁ cenv D h' tk ys k1 hD k2 ha hj hL hN
    rw [← hlen, List.take_length] at hj
    obtain ⟨nn, ho⟩ := ha
    exact k _ h' tk _ (k1.tr k2) ⟨D, ys, rfl, (hb.tr k1).none hD, ⟨_, nn, ho, rfl, rfl, rfl⟩, hj⟩ (k1.none hL) hN
end
end Mine
namespace Mine
open PySem PyProof.Rows PySem.Calls PySem.Builtin.Str PySem.SeqAt

section
variable {prog : Program} {w : World} {base : Heap} {A : Around} {env : Env} {G : List (Str × VP)}

theorem PE.index {o e : Expr} {apos pos : Pos} {l : List Nat} {c i : Nat} {rest : List Nat} (ho : PE prog w base A env G o (vs (S l))) (he : PE prog w base A env G e (vs (S [c])))
    (hoc : occurrences (S l) (S [c]) 0 (S l).length 1 = i :: rest)
    (hbase : attributeBase o "index" env (eval o env) = eval o env) (hline : (apos.endLine == pos.line) = true) (hs : starEach [e] env = [(false, eval e env)]) :
    PE prog w base A env G (.Call (.Attribute o "index" apos) [e] [] pos) (vi i) := by
  intro s Q E hb hv k
  refine Call_method1 hbase hs hline (ho s _ E hb hv fun v h1 t1 k1 p1 => ?_)
  obtain ⟨t, rfl⟩ := p1
  refine SB.index (he _ _ E (hb.tr k1) (hv.up k1) fun v2 h2 t2 k2 p2 => ?_)
  obtain ⟨u, rfl⟩ := p2
  exact ⟨S [c], u, rfl, i, rest, hoc, k _ h2 _ (k1.tr k2) ⟨_, rfl⟩⟩

theorem do_len_l {Ps : List VP} (hz : Ps.length < 2 ^ 62) : Does prog w base A (.builtin "len") [vl Ps] (vi Ps.length) := by
  intro s us Q E hb x k
  rcases us with _ | ⟨u, _ | ⟨_, _⟩⟩
  · exact x.elim
  · obtain ⟨⟨a, us', rfl, hl, hx⟩, _⟩ := x
    have hlen := hx.length
    refine Calls.call_len_list hl ?_ ?_
    · simp only [List.size_toArray]; omega
    · simp only [List.size_toArray, hlen]
      exact k _ s.heap _ Kp.rf ⟨_, rfl⟩
  · exact x.2.elim

theorem intsAre_of {h : Heap} : ∀ {us : List Value} {ns : List Int}, All2 h us (ns.map vi) → ∃ ts : List Tok, us = (ns.zip ts).map (fun p => Value.int p.1 p.2) ∧ ts.length = ns.length
  | [], [], _ => ⟨[], rfl, rfl⟩
  | _ :: us, n :: ns, ⟨⟨t, e⟩, r⟩ => by
    obtain ⟨ts, h1, h2⟩ := intsAre_of r
    exact ⟨t :: ts, by simp [e, h1], by simp [h2]⟩

theorem do_sum {ns : List Int} (hh : A.handled = none) : Does prog w base A (.builtin "sum") [vl (ns.map vi)] (vi ns.sum) := by
  intro s us Q E hb x k
  rcases us with _ | ⟨u, _ | ⟨_, _⟩⟩
  · exact x.elim
  · obtain ⟨⟨a, us', rfl, hl, hx⟩, _⟩ := x
    obtain ⟨ts, e, hlen⟩ := intsAre_of hx
    have e2 : us'.toArray = intItems (ns.zip ts).toArray := by rw [e]; simp [intItems]
    rw [e2] at hl
    refine sum_intListG hh hl fun h' tk t' hk => k _ h' tk hk ⟨t', ?_⟩
    rw [preSum_eq, List.take_of_length_le (by simp)]
    congr 2
    simp [List.map_fst_zip, hlen]
  · exact x.2.elim

theorem strs_of {h : Heap} : ∀ {us : List Value} {ls : List (List Nat)}, All2 h us (ls.map fun l => vs (S l)) → ∃ p : List (Str × Tok), us = strValues p ∧ p.map (·.1) = ls.map S
  | [], [], _ => ⟨[], rfl, rfl⟩
  | _ :: us, n :: ns, ⟨⟨t, e⟩, r⟩ => by
    obtain ⟨ts, h1, h2⟩ := strs_of r
    exact ⟨(S n, t) :: ts, by simp [e, h1, strValues], by simp [h2]⟩

theorem join_empty : ∀ ls : List (List Nat), Str.join (S []) (ls.map S) = S ls.flatten
  | [] => rfl
  | [a] => by simp [Str.join]
  | a :: b :: r => by
    have ih := join_empty (b :: r)
    simp only [List.map_cons] at ih
    show S a ++ S [] ++ Str.join (S []) (S b :: r.map S) = _
    rw [ih, S_app, S_app]; simp

theorem PE.join {o e : Expr} {apos pos : Pos} {ls : List (List Nat)} (ho : PE prog w base A env G o (vs (S []))) (he : PE prog w base A env G e (vl (ls.map fun l => vs (S l))))
    (hw : (ls.map (·.length)).sum ≤ 16777216)
    (hbase : attributeBase o "join" env (eval o env) = eval o env) (hline : (apos.endLine == pos.line) = true) (hs : starEach [e] env = [(false, eval e env)]) :
    PE prog w base A env G (.Call (.Attribute o "join" apos) [e] [] pos) (vs (S ls.flatten)) := by
  intro s Q E hb hv k
  refine Call_method1 hbase hs hline (ho s _ E hb hv fun v h1 t1 k1 p1 => ?_)
  obtain ⟨t, rfl⟩ := p1
  refine SB.join (he _ _ E (hb.tr k1) (hv.up k1) fun v2 h2 t2 k2 p2 => ?_)
  obtain ⟨a, us, rfl, hl, hx⟩ := p2
  obtain ⟨p, rfl, e2⟩ := strs_of hx
  refine ⟨a, p, rfl, hl, _, e2, joinOk_of ?_, fun t' tk => ?_⟩
  · have : ((ls.map S).map (·.length)) = ls.map (·.length) := by simp [Function.comp_def, S_len]
    rw [this, S_len]; simpa using hw
  · have : Txt.join (S []) (ls.map S) = S ls.flatten := by
      show glued _ _ = _
      rw [StrLaws.glued_eq_join, join_empty]
    rw [this]
    exact k _ h2 tk (k1.tr k2) ⟨_, rfl⟩

/-! slices of lists -/
def cutL {α : Type} (l : List α) (lo hi : Option Int) : List α := (l.drop (clipN l.length lo 0)).take (clipN l.length hi l.length - clipN l.length lo 0)
theorem slicePick_eq (us : List Value) (lo hi : Option Int) : slicePick us.toArray lo hi none = (cutL us lo hi).toArray := by
  unfold slicePick
  have e1 : (sliceBounds lo hi none us.toArray.size).1 = (clipN us.length lo 0 : Int) := by
    unfold sliceBounds clipN
    cases lo with
    | none => simp
    | some i => simp only [Option.getD_none, gt_iff_lt, Int.zero_lt_one, if_true]; simp only [List.size_toArray]; omega
  have e2 : (sliceBounds lo hi none us.toArray.size).2.1 = (clipN us.length hi us.length : Int) := by
    unfold sliceBounds clipN
    cases hi with
    | none => simp
    | some i => simp only [Option.getD_none, gt_iff_lt, Int.zero_lt_one, if_true]; simp only [List.size_toArray]; omega
  have e3 : (sliceBounds lo hi none us.toArray.size).2.2 = 1 := rfl
  rw [e1, e2, e3, sliceRange_one, pick_run]
  rfl
theorem All2.drop {h : Heap} : ∀ {us : List Value} {Ps : List VP} (n : Nat), All2 h us Ps → All2 h (us.drop n) (Ps.drop n)
  | us, Ps, 0, x => x
  | [], [], _ + 1, _ => trivial
  | _ :: _, _ :: _, n + 1, ⟨_, r⟩ => All2.drop n r
theorem All2.take {h : Heap} : ∀ {us : List Value} {Ps : List VP} (n : Nat), All2 h us Ps → All2 h (us.take n) (Ps.take n)
  | us, Ps, 0, x => by simp [All2]
  | [], [], _ + 1, _ => trivial
  | _ :: _, _ :: _, n + 1, ⟨p, r⟩ => ⟨p, All2.take n r⟩

theorem isPart_of {o : Option Int} {v : Value} (h : match o with | none => v = .none | some i => ∃ t, v = .int i t) : IsPart v o := by
  cases o with
  | none => rw [h]; exact .none
  | some i => obtain ⟨t, rfl⟩ := h; exact .int i t

theorem PE.lsl {value : Expr} {lower upper : Option Expr} {p pos : Pos} {Ps : List VP} {lo hi : Option Int} (hz : Ps.length ≤ sizeLine) (hv : PE prog w base A env G value (vl Ps))
    (hlo : PO prog w base A env G lower lo) (hhi : PO prog w base A env G upper hi) (ht : ∀ o r, letTemporaryGo value o r = pure ()) :
    PE prog w base A env G (.Subscript value (.Slice lower upper none p) pos) (vl (cutL Ps lo hi)) := by
  intro s Q E hb hV k
  refine wpAny_Subscript_list_slice (hv s _ E hb hV fun v h1 t1 k1 p1 => ?_) ht
  refine hlo _ _ E (hb.tr k1) (hV.up k1) fun v2 h2 t2 k2 p2 => ?_
  refine hhi _ _ E (hb.tr (k1.tr k2)) (hV.up (k1.tr k2)) fun v3 h3 t3 k3 p3 => ?_
  obtain ⟨a, us, rfl, hl, hx⟩ := p1
  have k23 := k2.tr k3
  refine ⟨a, us.toArray, lo, hi, rfl, isList_ks k23.ks hl, by simpa [hx.length] using hz, isPart_of p2, isPart_of p3, ?_⟩
  rw [slicePick_eq]
  refine k _ _ t3 (k1.tr (k23.tr ((Kp.push _ _).tr (Kp.push _ _)))) ⟨_, cutL us lo hi, rfl, ⟨{ cls := .type "list", data := .seq (cutL us lo hi).toArray }, ?_, rfl, 0, rfl⟩, ?_⟩
  · have e1 := Heap.get?_push_size (h3.push { cls := .type "slice", data := .fields #[v2, v3, .none] }) (o := { cls := .type "list", data := .seq (cutL us lo hi).toArray }) rfl
    rw [Heap.size_push] at e1
    exact e1
  · have : cutL us lo hi = (us.drop (clipN Ps.length lo 0)).take (clipN Ps.length hi Ps.length - clipN Ps.length lo 0) := by unfold cutL; rw [hx.length]
    rw [this]
    exact ((hx.up (k23.tr ((Kp.push _ _).tr (Kp.push _ _)))).drop _).take _

/-! lists compared -/
theorem oc_eqnil {Ps : List VP} (hu : A.units < cLine) : OpC prog w base A .Eq (vl Ps) (vl []) Ps.isEmpty := by
  rintro s _ _ Q E hb ⟨a, us, rfl, hl, hx⟩ ⟨a', us', rfl, hl', hx'⟩ k
  have e' : us' = [] := List.eq_nil_of_length_eq_zero hx'.length
  subst e'
  cases Ps with
  | nil =>
    have e : us = [] := List.eq_nil_of_length_eq_zero hx.length
    subst e
    exact eq_listAt (e := fun _ => true) hl hl' rfl hu (fun j h1 h2 => absurd h1 (by simp)) (k _ s.heap s.toks Kp.rf rfl)
  | cons P Ps =>
    refine eq_list_lengthsAt hl hl' ?_ hu (k _ s.heap s.toks Kp.rf rfl)
    have := hx.length
    simp at this
    simp [this]
theorem oc_nenil {Ps : List VP} (hu : A.units < cLine) : OpC prog w base A .NotEq (vl Ps) (vl []) (!Ps.isEmpty) := by
  rintro s _ _ Q E hb ⟨a, us, rfl, hl, hx⟩ ⟨a', us', rfl, hl', hx'⟩ k
  have e' : us' = [] := List.eq_nil_of_length_eq_zero hx'.length
  subst e'
  cases Ps with
  | nil =>
    have e : us = [] := List.eq_nil_of_length_eq_zero hx.length
    subst e
    exact RcNeAt.lists (e := fun _ => true) hl hl' rfl hu (fun j h1 h2 => absurd h1 (by simp)) prog w E Q (k _ s.heap s.toks Kp.rf rfl)
  | cons P Ps =>
    refine RcNeAt.lists_lengths hl hl' ?_ hu prog w E Q (k _ s.heap s.toks Kp.rf rfl)
    have := hx.length
    simp at this
    simp [this]
theorem oc_neints {xs ys : List Int} (hu : A.units < cLine) (hlen : xs.length = ys.length) : OpC prog w base A .NotEq (vl (xs.map vi)) (vl (ys.map vi)) (xs != ys) := by
  rintro s _ _ Q E hb ⟨a, us, rfl, hl, hx⟩ ⟨a', us', rfl, hl', hx'⟩ k
  have l1 := hx.length
  have l2 := hx'.length
  simp at l1 l2
  refine RcNeAt.lists (e := fun j => xs.getD j 0 == ys.getD j 0) hl hl' (by simp; omega) hu (fun j h1 h2 => ?_) prog w E Q ?_
  · simp at h1 h2
    have hj1 : j < xs.length := by omega
    have hj2 : j < ys.length := by omega
    obtain ⟨v, e1, p1⟩ := hx.get' (i := j) (P := vi xs[j]) (by simp [hj1])
    obtain ⟨v', e2, p2⟩ := hx'.get' (i := j) (P := vi ys[j]) (by simp [hj2])
    obtain ⟨t, rfl⟩ := p1
    obtain ⟨u, rfl⟩ := p2
    have g1 : us.toArray[j] = Value.int xs[j] t := by
      have := (List.getElem?_eq_some_iff.mp e1).2; simpa using this
    have g2 : us'.toArray[j] = Value.int ys[j] u := by
      have := (List.getElem?_eq_some_iff.mp e2).2; simpa using this
    rw [g1, g2]
    have : (xs.getD j 0 == ys.getD j 0) = (xs[j] == ys[j]) := by simp [List.getD, hj1, hj2]
    rw [this]
    exact EqAt.int_int _ _ _ _
  · have : (!(List.range us.toArray.size).all fun j => xs.getD j 0 == ys.getD j 0) = (xs != ys) := by
      rw [Bool.eq_iff_iff, bne_iff_ne, Bool.not_eq_true']
      rw [← Bool.not_eq_true, List.all_eq_true]
      simp only [List.mem_range, List.size_toArray, l1, beq_iff_eq]
      constructor
      · intro h e; subst e; exact h fun _ _ => rfl
      · intro h h'
        refine h (List.ext_getElem hlen fun i h1 h2 => ?_)
        have := h' i h1
        simpa [List.getD, h1, h2] using this
    rw [this]
    exact k _ s.heap s.toks Kp.rf rfl

theorem do_min3 {a b c : Int} (hh : A.handled = none) : Does prog w base A (.builtin "min") [vi a, vi b, vi c] (vi (min a (min b c))) := by
  intro s us Q E hb x k
  match us, x with
  | [_, _, _], ⟨⟨t, rfl⟩, ⟨u, rfl⟩, ⟨y, rfl⟩, _⟩ =>
    refine min_three_ints hh fun h' tk hk => ?_
    refine k _ h' tk hk ?_
    split <;> split
    · exact ⟨y, by congr 1; omega⟩
    · exact ⟨u, by congr 1; omega⟩
    · exact ⟨y, by congr 1; omega⟩
    · exact ⟨t, by congr 1; omega⟩
end
end Mine
namespace Mine
open PySem PyProof.Rows PySem.Calls

/-- a kind of list -/
structure ZOk (Z : Heap → Addr → Array Value → Prop) : Prop where
  keep : ∀ h h' a us, (∀ o, h.get? a = some o → h'.get? a = some o) → Z h a us → Z h' a us
  isl : ∀ h a us, Z h a us → h.IsList a us
theorem zok_isList : ZOk Heap.IsList := ⟨fun _ _ _ _ k ⟨o, e, r⟩ => ⟨o, k o e, r⟩, fun _ _ _ x => x⟩
theorem zok_plainL : ZOk PlainL := ⟨fun _ _ _ _ k ⟨o, n, e, r⟩ => ⟨o, n, k o e, r⟩, fun _ _ _ x => x.isList⟩
theorem ZOk.ks {Z : Heap → Addr → Array Value → Prop} (z : ZOk Z) {h h' : Heap} {a : Addr} {us : Array Value} (k : Ks h h') (x : Z h a us) : Z h' a us := by
  obtain ⟨o, ho, hc, n, hd⟩ := z.isl _ _ _ x
  refine z.keep _ _ _ _ (fun o' e => ?_) x
  rw [ho] at e; cases e
  exact k a o ho (by simp [isSeq, hd])
theorem ZOk.some {Z : Heap → Addr → Array Value → Prop} (z : ZOk Z) {h : Heap} {a : Addr} {us : Array Value} (x : Z h a us) : ∃ o, h.get? a = some o ∧ isSeq o = true := by
  obtain ⟨o, ho, hc, n, hd⟩ := z.isl _ _ _ x
  exact ⟨o, ho, by simp [isSeq, hd]⟩

/-- a list of lists; all of them new since h₀ -/
structure LL (Z : Heap → Addr → Array Value → Prop) (h₀ h : Heap) (R : Addr) (rs : List Addr) (rows : List (List VP)) : Prop where
  top : Z h R (rs.map Value.ref).toArray
  out : R ∉ rs
  nd : rs.Nodup
  new : ∀ r ∈ R :: rs, h₀.get? r = none
  len : rs.length = rows.length
  row : ∀ (i : Nat) (r : Addr) (Ps : List VP), rs[i]? = some r → rows[i]? = some Ps → ∃ us : List Value, Z h r us.toArray ∧ All2 h us Ps
  flat : ∀ Ps ∈ rows, ∀ P ∈ Ps, Flat P

section
variable {Z : Heap → Addr → Array Value → Prop} {h₀ h h' : Heap} {R : Addr} {rs : List Addr} {rows : List (List VP)}

theorem LL.rowAt (L : LL Z h₀ h R rs rows) {i : Nat} {r : Addr} (hi : rs[i]? = some r) : ∃ Ps us, rows[i]? = some Ps ∧ Z h r (List.toArray us) ∧ All2 h us Ps := by
  have hl := (List.getElem?_eq_some_iff.mp hi).1
  have hl' : i < rows.length := by rw [← L.len]; exact hl
  obtain ⟨us, a, b⟩ := L.row i r rows[i] hi (List.getElem?_eq_getElem hl')
  exact ⟨_, us, List.getElem?_eq_getElem hl', a, b⟩
theorem LL.has (z : ZOk Z) (L : LL Z h₀ h R rs rows) : ∀ r ∈ R :: rs, ∃ o, h.get? r = some o ∧ isSeq o = true := by
  intro r hr
  rcases List.mem_cons.mp hr with rfl | hr
  · exact z.some L.top
  · obtain ⟨i, hi⟩ := List.getElem?_of_mem hr
    obtain ⟨Ps, us, _, a, _⟩ := L.rowAt hi
    exact z.some a
theorem LL.ks (z : ZOk Z) (L : LL Z h₀ h R rs rows) (k : Ks h h') : LL Z h₀ h' R rs rows :=
  ⟨z.ks k L.top, L.out, L.nd, L.new, L.len, fun i r Ps e1 e2 => let ⟨us, a, b⟩ := L.row i r Ps e1 e2; ⟨us, z.ks k a, all2_flat (L.flat Ps (List.mem_of_getElem? e2)) b⟩, L.flat⟩
theorem LL.mono (L : LL Z h₀ h R rs rows) {h₁ : Heap} (k : Kp h₁ h₀) : LL Z h₁ h R rs rows :=
  ⟨L.top, L.out, L.nd, (fun r hr => Kp.none k (L.new r hr)), L.len, L.row, L.flat⟩
theorem LL.vr (z : ZOk Z) (L : LL Z h₀ h R rs rows) : (vl (rs.map Mine.vr)).p h (.ref R) := by
  refine ⟨R, rs.map Value.ref, rfl, z.isl _ _ _ L.top, ?_⟩
  have : ∀ l : List Addr, All2 h (l.map Value.ref) (l.map Mine.vr) := by
    intro l
    induction l with
    | nil => trivial
    | cons a l ih => exact ⟨rfl, ih⟩
  exact this rs
theorem LL.vl (z : ZOk Z) (L : LL Z h₀ h R rs rows) : (Mine.vl (rows.map Mine.vl)).p h (.ref R) := by
  refine ⟨R, rs.map Value.ref, rfl, z.isl _ _ _ L.top, All2.of_get (by simp [L.len]) fun i v P e1 e2 => ?_⟩
  rw [List.getElem?_map] at e1 e2
  obtain ⟨r, hr, rfl⟩ := Option.map_eq_some_iff.mp e1
  obtain ⟨Ps, hP, rfl⟩ := Option.map_eq_some_iff.mp e2
  obtain ⟨us, a, b⟩ := L.row i r Ps hr hP
  exact ⟨r, us, rfl, z.isl _ _ _ a, b⟩

/-- a row changes -/
theorem LL.upd (z : ZOk Z) (L : LL Z h₀ h R rs rows) {i : Nat} {r : Addr} {us : List Value} {Ps : List VP} (hi : rs[i]? = some r) (hs : KX [r] h h') (hz : Z h' r us.toArray) (hx : All2 h' us Ps) (hf : ∀ P ∈ Ps, Flat P) :
    LL Z h₀ h' R rs (rows.set i Ps) := by
  have hk : ∀ a, a ≠ r → ∀ o, h.get? a = some o → h'.get? a = some o := fun a ha o e => hs a o (by simpa using ha) e
  have hRr : R ≠ r := fun e => L.out (e ▸ List.mem_of_getElem? hi)
  refine ⟨z.keep _ _ _ _ (hk R hRr) L.top, L.out, L.nd, L.new, by simp [L.len], fun j r' Ps' e1 e2 => ?_, fun Ps' hP => ?_⟩
  · by_cases hij : i = j
    · subst hij
      rw [hi] at e1; cases e1
      have hl : i < rows.length := by rw [← L.len]; exact (List.getElem?_eq_some_iff.mp hi).1
      rw [List.getElem?_set_self hl] at e2
      cases e2
      exact ⟨us, hz, hx⟩
    · rw [List.getElem?_set_ne hij] at e2
      obtain ⟨us', a, b⟩ := L.row j r' Ps' e1 e2
      have hne : r' ≠ r := by
        rintro rfl
        have h1 := List.getElem?_eq_some_iff.mp e1
        have h2 := List.getElem?_eq_some_iff.mp hi
        obtain ⟨q1, w1⟩ := h1
        obtain ⟨q2, w2⟩ := h2
        rcases Nat.lt_or_gt_of_ne hij with hlt | hlt
        · exact List.pairwise_iff_getElem.mp L.nd i j q2 q1 hlt (w2.trans w1.symm)
        · exact List.pairwise_iff_getElem.mp L.nd j i q1 q2 hlt (w1.trans w2.symm)
      exact ⟨us', z.keep _ _ _ _ (hk r' hne) a, all2_flat (L.flat Ps' (List.mem_of_getElem? e2)) b⟩
  · rcases List.mem_or_eq_of_mem_set hP with h1 | h1
    · exact L.flat Ps' h1
    · subst h1; exact hf

/-- one row more -/
theorem LL.app (z : ZOk Z) (L : LL Z h₀ h R rs rows) {r : Addr} {us : List Value} {Ps : List VP} (hr : ∀ q ∈ R :: rs, q ≠ r) (hn : h₀.get? r = none) (hs : KX [R] h h') (hz : Z h r us.toArray) (hx : All2 h us Ps) (hf : ∀ P ∈ Ps, Flat P)
    (ht : Z h' R ((rs.map Value.ref) ++ [Value.ref r]).toArray) : LL Z h₀ h' R (rs ++ [r]) (rows ++ [Ps]) := by
  have hk : ∀ a, a ≠ R → ∀ o, h.get? a = some o → h'.get? a = some o := fun a ha o e => hs a o (by simpa using ha) e
  have hrn : r ∉ rs := fun q => hr r (List.mem_cons_of_mem _ q) rfl
  refine ⟨by simpa using ht, ?_, ?_, ?_, by simp [L.len], fun j r' Ps' e1 e2 => ?_, fun Ps' hP => ?_⟩
  · intro q
    rcases List.mem_append.mp q with q | q
    · exact L.out q
    · exact hr R List.mem_cons_self (by simpa using q)
  · rw [List.nodup_append]
    refine ⟨L.nd, by simp, fun a ha b hb e => ?_⟩
    have : b = r := by simpa using hb
    exact hrn (this ▸ e ▸ ha)
  · intro q hq
    rcases List.mem_cons.mp hq with rfl | hq
    · exact L.new _ List.mem_cons_self
    · rcases List.mem_append.mp hq with hq | hq
      · exact L.new _ (List.mem_cons_of_mem _ hq)
      · have : q = r := by simpa using hq
        exact this ▸ hn
  · by_cases hj : j < rs.length
    · rw [List.getElem?_append_left hj] at e1
      rw [List.getElem?_append_left (by rw [← L.len]; exact hj)] at e2
      obtain ⟨us', a, b⟩ := L.row j r' Ps' e1 e2
      have hne : r' ≠ R := by rintro rfl; exact L.out (List.mem_of_getElem? e1)
      exact ⟨us', z.keep _ _ _ _ (hk r' hne) a, all2_flat (L.flat Ps' (List.mem_of_getElem? e2)) b⟩
    · have hj' : j = rs.length := by
        have := (List.getElem?_eq_some_iff.mp e1).1
        simp at this; omega
      subst hj'
      rw [List.getElem?_append_right (Nat.le_refl _)] at e1
      rw [List.getElem?_append_right (by rw [L.len]; exact Nat.le_refl _)] at e2
      rw [L.len] at e2
      simp at e1 e2
      subst e1 e2
      exact ⟨us, z.keep _ _ _ _ (hk r (Ne.symm (hr R List.mem_cons_self))) hz, all2_flat hf hx⟩
  · rcases List.mem_append.mp hP with hP | hP
    · exact L.flat Ps' hP
    · have : Ps' = Ps := by simpa using hP
      exact this ▸ hf
end

/-- a new list of lists -/
def vll (Z : Heap → Addr → Array Value → Prop) (z : ZOk Z) (h₀ : Heap) (rows : List (List VP)) : VP := ⟨fun h v => ∃ R rs, v = .ref R ∧ LL Z h₀ h R rs rows, fun _ _ _ k ⟨R, rs, e, L⟩ => ⟨R, rs, e, L.ks z k.ks⟩⟩
theorem sq_vll {Z : Heap → Addr → Array Value → Prop} {z : ZOk Z} {h₀ : Heap} {rows : List (List VP)} : Sq (vll Z z h₀ rows) := fun _ _ _ k ⟨R, rs, e, L⟩ => ⟨R, rs, e, L.ks z k⟩

section
variable {prog : Program} {w : World} {base : Heap} {A : Around} {E : Value → Shared → Prop} {s₀ s : Shared} {env : Env} {G : List (Str × VP)}

theorem PE.listP {elts : List Expr} {pos : Pos} {Ps : List VP} (h : PA prog w base A env G pos elts Ps) (hz : Ps.length ≤ sizeLine) : PE prog w base A env G (.List elts pos) (vlp base Ps) := by
  intro s Q E hb hv k
  refine List_ (h.2 s _ E hb hv fun us h1 t1 k1 x => ?_)
  refine wpAny_newObj_type (k _ _ _ (k1.tr (Kp.push _ _)) ⟨_, us, rfl, (hb.tr k1).none_of, ⟨_, _, Heap.get?_push_size _ rfl, rfl, rfl, rfl⟩, x.up (Kp.push _ _)⟩) ?_
  show us.toArray.size ≤ sizeLine
  rw [List.size_toArray, x.length]; exact hz

theorem Fs.ce (F : Fs s₀ env G s) (fe : FEnv env) : CE env := by
  obtain ⟨m, cm, ic, hv⟩ := F.ic
  exact ⟨fe.toEnvOk, fun x y c h1 h2 => name_of_addr ic.apart (mem_of_lookup h1) (mem_of_lookup h2)⟩

theorem ex_append {o e : Expr} {apos pos p : Pos} {rest : List Stmt} {P : VP} {r : Addr} {us : List Value} {Q : Flow → Shared → Prop} (fe : FEnv env) (hb : Kp base s.heap) (F : Fs s₀ env G s)
    (hf : ∀ x P, G.lookup x = some P → Flat P) (ho : PE prog w base A env G o (vr r)) (he : PE prog w base A env G e P) (hl : PlainL s.heap r us.toArray) (hr : s₀.heap.get? r = none) (hsz : us.length ≤ sizeLine)
    (hbase : attributeBase o "append" env (eval o env) = eval o env) (hline : (apos.endLine == pos.line) = true) (hst : starEach [e] env = [(false, eval e env)])
    (hs : swapsWith (.Call (.Attribute o "append" apos) [e] [] pos) none p.line env = pure false)
    (kk : ∀ v h1 h' tk, Kp s.heap h1 → P.p h1 v → KX [r] h1 h' → PlainL h' r (us ++ [v]).toArray → Fs s₀ env G { s with heap := h', toks := tk } → wpAny (model prog w) A (execs rest env) Q E { s with heap := h', toks := tk }) :
    wpAny (model prog w) A (execs (.Expr (.Call (.Attribute o "append" apos) [e] [] pos) p :: rest) env) Q E s := by
  refine wpAny_execs_cons (wpAny_Expr_any (wpAny_Call_append hbase (by rw [hst]; rfl) hline (by rw [hst]; rfl) (ho s _ E hb (F.vars fe) fun ov h1 t1 k1 p1 => ?_)) ?_ hs)
  · have e1 : ov = .ref r := p1
    subst e1
    refine ⟨r, us.toArray, rfl, hl.keeps k1, he _ _ E (hb.tr k1) ((F.vars fe).up k1) fun v h2 t2 k2 p2 => ?_⟩
    have hl2 := hl.keeps (k1.tr k2)
    refine list_append_plainL hl2 (fun h' hl' hs' => ?_) (by simpa using hsz)
    obtain ⟨ol, nn, hol, _, _, hod⟩ := id hl2
    have F4 := (F.up (tk := t2) (k1.tr k2)).mutd (tk := t2) hf hs' hr ⟨ol, hol, by simp [isSeq, hod]⟩
    exact kk v h2 h' t2 (k1.tr k2) p2 (fun b o hb e => (hs'.2 b (fun q => hb (q ▸ List.mem_cons_self))).trans e) (by simpa using hl') F4
  · unfold interactive
    have : env.scope.kind = .function := fe.k
    rw [this]; rfl

def JLL (rows : List (List VP)) (s₁ : Shared) (cenv : Env) (D : Addr) (i : Nat) (h : Heap) (ys : List Value) : Prop :=
  ∃ rs : List Addr, ys = rs.map Value.ref ∧ rs.length = i ∧ rs.Nodup ∧ (∀ r ∈ rs, r ∉ D :: own s₁.heap cenv ∧ s₁.heap.get? r = none) ∧ ∀ (j : Nat) (r : Addr) (Ps : List VP), rs[j]? = some r → rows[j]? = some Ps → ∃ us : List Value, h.IsList r us.toArray ∧ All2 h us Ps
theorem jst_ll {rows : List (List VP)} (hofl : ∀ o ∈ rows, ∀ P ∈ o, Flat P) (s₁ : Shared) (cenv : Env) (D : Addr) (i : Nat) : Jst (D :: own s₁.heap cenv) (JLL rows s₁ cenv D i) := by
  rintro h h' ys ⟨rs, e1, e2, e3, e4, e5⟩ km
  refine ⟨rs, e1, e2, e3, e4, fun j r Ps g1 g2 => ?_⟩
  obtain ⟨us, ⟨o, a, c, n, d⟩, b⟩ := e5 j r Ps g1 g2
  exact ⟨us, ⟨o, km r o (e4 r (List.mem_of_getElem? g1)).1 a (fun vs e => by rw [d] at e; cases e), c, n, d⟩, all2_flat (hofl Ps (List.mem_of_getElem? g2)) b⟩
/-- a comprehension whose items are new lists -/
theorem PC.compLL {elt iter : Expr} {x : Str} {px pos : Pos} {scope : Scope} {P : VP} (items : List VP) (rows : List (List VP)) (ce : CE env)
    (hsc : ScOk scope) (hi : PE prog w base A env G iter P) (hit : ∀ h v, P.p h v → It prog w A [] items h v) (hfl : ∀ R ∈ items, Flat R)
    (Gf : Heap → List (Str × VP))
    (hGf : ∀ h₁, Kp base h₁ → ∀ y P', (Gf h₁).lookup y = some P' → Flat P' ∧ scope.names.lookup y = some .free ∧ ∃ P, G.lookup y = some P ∧ ∀ v, P.p h₁ v → P'.p h₁ v)
    (hfree : ∀ y, (y, NameKind.free) ∈ scope.names → env.kindOf y ≠ some .local ∧ ∃ P, G.lookup y = some P)
    (hx : scope.names.lookup x = some .local ∨ scope.names.lookup x = some .cell)
    (hlen : rows.length = items.length) (hofl : ∀ o ∈ rows, ∀ P ∈ o, Flat P) (hosz : rows.length ≤ sizeLine)
    (el : ∀ (base' : Heap) (cenv : Env) (base'' : Heap) (i : Nat) (R : VP) (row : List VP), Kp base base' → CE cenv → Kn cenv scope → Kp base' base'' → items[i]? = some R → rows[i]? = some row → PE prog w base'' A cenv ((x, R) :: Gf base') elt (vln base'' row))
    (hs : ∀ v, foldedSetIterable iter env v = pure v := by intro _; rfl) :
    PC prog w base A env G elt [⟨.Name x px, iter, [], 0⟩] scope pos (vll Heap.IsList zok_isList base rows) := by
  intro s Q E use hb hv k
  refine wp_comp (base := base) items ce hb hv hsc hi hit hfl Gf hGf hfree hx (fun cenv D => eval elt cenv >>= fun v => call (.builtin "list.append") [.ref D, v] >>= fun _ => pure ()) (by intro cenv I D; rfl)
    (JLL rows) (jst_ll hofl) ?_ ?_ ?_ hs
  · intro s₁ cenv D h
    exact ⟨[], rfl, rfl, List.nodup_nil, (fun r hr => nomatch hr), fun j r Ps g1 _ => by simp at g1⟩
  · intro s₁ cenv D kb hce hkn hD hL hown i R s2 hR C E' Q' kk
    obtain ⟨row, hrow⟩ : ∃ row, rows[i]? = some row := by
      have := (List.getElem?_eq_some_iff.mp hR).1
      exact ⟨rows[i]'(by omega), List.getElem?_eq_getElem _⟩
    refine wpAny_tests_nil ?_
    simp only [if_true]
    have hJ := jst_ll hofl s₁ cenv D i
    refine wpAny_bind (el _ cenv s2.heap i R row kb hce hkn C.kp hR hrow s2 _ _ Kp.rf C.fv.vars fun v h2 t2 k2 p2 => wpAny_bind ?_)
    obtain ⟨a, us, rfl, hnew, hl, hx'⟩ := p2
    have C2' := C.up (tk := t2) hJ k2
    have C2 : CS s₁ cenv D ((x, R) :: Gf s₁.heap) (fun h ys => JLL rows s₁ cenv D i h ys ∧ ∀ r, Value.ref r ∈ ys → ∃ o, s2.heap.get? r = some o) { s2 with heap := h2, toks := t2 } := by
      obtain ⟨ys', ha', hj⟩ := C.acc
      refine ⟨C2'.same, C2'.kp, C2'.ns, C2'.cells, C2'.fv, ys', ha'.at fun o e => k2 _ _ e, hJ _ _ _ hj k2.kx.km, fun r hr => ?_⟩
      obtain ⟨rs, rfl, f2, f3, f4, f5⟩ := hj
      obtain ⟨r', hr', e⟩ := List.mem_map.mp hr
      cases e
      obtain ⟨j, hj⟩ := List.getElem?_of_mem hr'
      have hjl := (List.getElem?_eq_some_iff.mp hj).1
      have hil := (List.getElem?_eq_some_iff.mp hrow).1
      obtain ⟨us', ⟨o, ho, _⟩, _⟩ := f5 j r (rows[j]'(by omega)) hj (List.getElem?_eq_getElem _)
      exact ⟨o, ho⟩
    have hamu : a ∉ D :: own s₁.heap cenv := by
      intro hbm
      have : ∃ o, s2.heap.get? a = some o := by
        rcases List.mem_cons.mp hbm with rfl | hbm
        · obtain ⟨ys, ha, _⟩ := C.acc
          obtain ⟨o, ho, _⟩ := PlainList.isSeq ha
          exact ⟨o, ho⟩
        · rcases own_cases hbm with rfl | ⟨y, hy⟩
          · obtain ⟨m, o, es, ep, ho, _⟩ := C.ns
            exact ⟨o, ho⟩
          · obtain ⟨u, o, ho, _⟩ := C.cells y a hy
            exact ⟨o, ho⟩
      obtain ⟨o, ho⟩ := this
      rw [hnew] at ho; cases ho
    refine append_c C2 hD (fun h ys ⟨⟨rs, e1, e2, _⟩, _⟩ => ?_) (J' := JLL rows s₁ cenv D (i + 1))
      (fun h3 ys ⟨⟨rs, e1, e2, e3, e4, e5⟩, hex⟩ kx3 => ?_) fun s3 C3 kx3 => wpAny_pure (kk _ C3 (k2.kx.tr kx3))
    · have := (List.getElem?_eq_some_iff.mp hrow).1
      rw [e1, List.length_map, e2]; omega
    · have hars : a ∉ rs := fun q => by
        obtain ⟨o, ho⟩ := hex a (by rw [e1]; exact List.mem_map.mpr ⟨a, q, rfl⟩)
        rw [hnew] at ho; cases ho
      refine ⟨rs ++ [a], by simp [e1], by simp [e2], ?_, fun r hr => ?_, fun j r Ps g1 g2 => ?_⟩
      · rw [List.nodup_append]
        refine ⟨e3, by simp, fun b hb c hc e => ?_⟩
        have : c = a := by simpa using hc
        exact hars (this ▸ e ▸ hb)
      · rcases List.mem_append.mp hr with hr | hr
        · exact e4 r hr
        · have : r = a := by simpa using hr
          subst this
          refine ⟨hamu, ?_⟩
          cases e : s₁.heap.get? r with
          | none => rfl
          | some o => have := C.kp _ _ e; rw [hnew] at this; cases this
      · by_cases hj : j < rs.length
        · rw [List.getElem?_append_left hj] at g1
          obtain ⟨us', a', b'⟩ := e5 j r Ps g1 g2
          exact ⟨us', isList_kx kx3 (e4 r (List.mem_of_getElem? g1)).1 a', all2_flat (hofl Ps (List.mem_of_getElem? g2)) b'⟩
        · have hj' : j = rs.length := by
            have := (List.getElem?_eq_some_iff.mp g1).1
            simp at this; omega
          subst hj'
          rw [List.getElem?_append_right (Nat.le_refl _)] at g1
          simp at g1; subst g1
          rw [e2, hrow] at g2; cases g2
          exact ⟨us, isList_kx kx3 hamu hl, all2_flat (hofl row (List.mem_of_getElem? hrow)) hx'⟩
  · intro s₁ cenv D h' tk ys k1 hD k2 ha hj hL hN
    obtain ⟨rs, rfl, e2, e3, e4, e5⟩ := hj
    refine k _ h' tk _ (k1.tr k2) ⟨D, rs, rfl, ha.isList, fun q => (e4 D q).1 List.mem_cons_self, e3, fun r hr => ?_, e2.trans hlen.symm, e5, hofl⟩ (k1.none hL) hN
    rcases List.mem_cons.mp hr with rfl | hr
    · exact (hb.tr k1).none hD
    · exact (hb.tr k1).none (e4 r hr).2
end
end Mine
namespace Mine
open PySem PyProof.Rows PySem.Calls

section
variable {prog : Program} {w : World} {base : Heap} {A : Around} {E : Value → Shared → Prop} {s₀ s : Shared} {env : Env} {G : List (Str × VP)}

/-- two names at once, stored from the front -/
theorem ex_unpack2 {x y : Str} {px py tpos pos : Pos} {c : Nat} {value : Expr} {rest : List Stmt} {P1 P2 : VP} {Q : Flow → Shared → Prop} (hh : A.handled = none) (fe : FEnv env) (hb : Kp base s.heap) (F : Fs s₀ env G s)
    (hk : env.kindOf x = some .local ∨ env.kindOf x = some .cell) (hk' : env.kindOf y = some .local ∨ env.kindOf y = some .cell) (hq1 : Sq P1) (hq2 : Sq P2)
    (hs : swapsWithSole [.Tuple [.Name x px, .Name y py] c tpos] value pos.line env = pure false)
    (hsw : swappedStores [.Tuple [.Name x px, .Name y py] c tpos] value env = pure none)
    (he : PE prog w base A env G value (vt [P1, P2]))
    (k : ∀ h' tk, Kf env s.heap h' → Fs s₀ env ((y, P2) :: (x, P1) :: G) { s with heap := h', toks := tk } → wpAny (model prog w) A (execs rest env) Q E { s with heap := h', toks := tk }) :
    wpAny (model prog w) A (execs (.Assign [.Tuple [.Name x px, .Name y py] c tpos] value pos :: rest) env) Q E s := by
  refine wpAny_execs_cons (Assign_Tuple (he s _ E hb (F.vars fe) fun v h1 t1 k1 p1 => ?_) hs hsw)
  obtain ⟨a, us, rfl, hl, hx⟩ := p1
  match us, hx with
  | [v1, v2], ⟨q1, q2, _⟩ =>
    refine wpAny_assign_Tuple hh hl rfl rfl fun h2 he2 => ?_
    have k2 : Kp h1 h2 := fun b o e => he2 b o (Nat.ne_of_lt (Heap.lt_size e)) e
    show wpAny _ _ (holding [v2] (assign (.Name x px) env v1) >>= fun _ => (holding [] (assign (.Name y py) env v2) >>= fun _ => pure ())) _ _ _
    refine wpAny_bind (wpAny_holding (wpAny_assign_Name (store_ fe (F.up (tk := t1) (k1.tr k2)) hk (P1.up _ _ _ k2 q1) hq1 fun h3 t3 ks F' => ?_)))
    refine wpAny_bind (wpAny_holding (wpAny_assign_Name (store_ fe F' hk' (hq2 _ _ _ ks.ks (P2.up _ _ _ k2 q2)) hq2 fun h4 t4 ks' F'' => ?_)))
    exact wpAny_pure (k h4 t4 ((k1.tr k2).kf.tr (ks.tr ks')) F'')
end
end Mine
namespace Mine
open PySem PyProof.Rows PySem.Calls

section
variable {prog : Program} {w : World} {base : Heap} {A : Around} {env : Env} {G : List (Str × VP)} {mg mb : Str → Option Value}

theorem PE.congr {e : Expr} {R R' : VP} (x : PE prog w base A env G e R) (h : R = R') : PE prog w base A env G e R' := h ▸ x
theorem PE.bc {x : Str} {p pos : Pos} {e : Expr} {rest : List Expr} {id : String} {Ps : List VP} {R : VP} (ok : EnvOk env) (B : Base mg mb base) (hg : mg x = none) (hv : bootBuiltins x = some (.builtin id))
    (hx : env.kindOf x = some .globalImplicit) (hn : x ≠ "__name__") (hd : (x == ("__debug__" : Str)) = false) (hdo : Does prog w base A (.builtin id) Ps R)
    (ha : PA prog w base A env G pos (e :: rest) Ps) (hs : starEach (e :: rest) env = (false, eval e env) :: starEach rest env) :
    PE prog w base A env G (.Call (.Name x p) (e :: rest) [] pos) R := PE.callB (PE.built ok B hx hg hv hn hd) ha hs hdo
theorem PE.tc {x : Str} {p pos : Pos} {e : Expr} {rest : List Expr} {id : String} {Ps : List VP} {R : VP} (ok : EnvOk env) (B : Base mg mb base) (hg : mg x = none) (hv : bootBuiltins x = some (.type id))
    (hx : env.kindOf x = some .globalImplicit) (hn : x ≠ "__name__") (hd : (x == ("__debug__" : Str)) = false) (hdo : Does prog w base A (.type id) Ps R)
    (ha : PA prog w base A env G pos (e :: rest) Ps) (hs : starEach (e :: rest) env = (false, eval e env) :: starEach rest env) :
    PE prog w base A env G (.Call (.Name x p) (e :: rest) [] pos) R := PE.callT (PE.built ok B hx hg hv hn hd) ha hs hdo
theorem PE.dc {name : Str} {p pos : Pos} {e : Expr} {rest : List Expr} {params : Arguments} {body : List Stmt} {scope : Scope} {f : Addr} {Ps : List VP} {R : VP} (ok : EnvOk env) (B : Base mg mb base)
    (hf : FnAt mg base name params body scope f) (hx : env.kindOf name = some .globalImplicit) (hd : (name == ("__debug__" : Str)) = false)
    (ha : PA prog w base A env G pos (e :: rest) Ps) (hs : starEach (e :: rest) env = (false, eval e env) :: starEach rest env) (hdo : Does prog w base A (.ref f) Ps R) :
    PE prog w base A env G (.Call (.Name name p) (e :: rest) [] pos) R := by
  obtain ⟨hg, o, pm, code, doc, ho, hdat, hcd⟩ := hf
  exact PE.callF ho hdat (PE.glob ok B hx hg hd) ha hs hdo
/-- len(text) -/
theorem PE.lens {p pos : Pos} {e : Expr} {l : List Nat} (ok : EnvOk env) (B : Base mg mb base) (hg : mg "len" = none) (hz : l.length < 2 ^ 62)
    (hx : env.kindOf ("len" : Str) = some .globalImplicit) (h : PE prog w base A env G e (vs (S l))) (hs : starEach [e] env = (false, eval e env) :: starEach [] env) :
    PE prog w base A env G (.Call (.Name "len" p) [e] [] pos) (vi l.length) :=
  PE.bc ok B hg rfl hx (by decide) rfl (do_len_s hz) (PA.cons h PA.nil hs) hs
end

/-- the four signs -/
def sg : List Nat := [97, 65, 98, 66]
def ix (c : Nat) : Nat := if c = 97 then 0 else if c = 65 then 1 else if c = 98 then 2 else 3
theorem aAbB : (Str.ofString "aAbB") = S sg := by decide +kernel
theorem ix_occ : ∀ c ∈ sg, Builtin.Str.occurrences (S sg) (S [c]) 0 (S sg).length 1 = [ix c] := by decide +kernel
theorem ix_div : ∀ c ∈ sg, Builtin.divisionGoesByPylong (ix c : Int) 2 = false := by decide +kernel
theorem ix_sc : ∀ a ∈ sg, ∀ b ∈ sg, (if a = b then 0 else if ((ix a : Int).fdiv 2 == (ix b : Int).fdiv 2) = true then 1 else 2) = sc a b := by decide +kernel
theorem sg_lt : ∀ c ∈ sg, c < 128 := by decide

structure W1 (mg mb : Str → Option Value) (base : Heap) : Prop extends W0 mg mb base where
  fprice : ∃ f, FnAt mg base "_law_price" (fargs 7) (fbody 7) (fscope 7) f
  ftable : ∃ f, FnAt mg base "_law_table" (fargs 8) (fbody 8) (fscope 8) f
  froad : ∃ f, FnAt mg base "_law_road" (fargs 9) (fbody 9) (fscope 9) f
  fright : ∃ f, FnAt mg base "_law_right" (fargs 10) (fbody 10) (fscope 10) f
  nsum : mg "sum" = none
theorem W1.mono {mg mb : Str → Option Value} {h h' : Heap} (x : W1 mg mb h) (k : Kp h h') : W1 mg mb h' :=
  ⟨x.toW0.mono k, let ⟨f, y⟩ := x.fprice; ⟨f, y.mono k⟩, let ⟨f, y⟩ := x.ftable; ⟨f, y.mono k⟩, let ⟨f, y⟩ := x.froad; ⟨f, y.mono k⟩, let ⟨f, y⟩ := x.fright; ⟨f, y.mono k⟩, x.nsum⟩

section
variable {prog : Program} {w : World} {base : Heap} {A : Around} {mg mb : Str → Option Value}

theorem c_price (W : W1 mg mb base) (hA : OkA A 990) {f : Addr} (hf : FnAt mg base "_law_price" (fargs 7) (fbody 7) (fscope 7) f) {a b : Nat} (ha : a ∈ sg) (hb : b ∈ sg) :
    Does prog w base A (.ref f) [vs (S [a]), vs (S [b])] (vi (sc a b)) := by
  refine does_def ["one", "other"] W.B hf (hA.room (by decide)) ?_ rfl (by decide) (by decide) (sq_flat2 (flat_vs _) (flat_vs _)) ?_
  · intro pm code doc us h
    rcases us with _ | ⟨x, _ | ⟨y, _ | ⟨z, us⟩⟩⟩ <;> simp at h
    rfl
  intro s₀ s env E he fe hb0 F
  have ok := fe.toEnvOk
  have hh := ix_sc a ha b hb
  have hid : ∀ (c : Nat) (x : Str) p1 p2 p3 p4 (G : List (Str × VP)) k, c ∈ sg → (x == ("__debug__" : Str)) = false → G.lookup x = some (vs (S [c])) → (p2.endLine == p4.line) = true → PE prog w base (A.deeper env) env G (.Call (.Attribute (.Constant (.str (Str.ofString "aAbB")) k p1) "index" p2) [.Name x p3] [] p4) (vi (ix c)) := by
    intro c x p1 p2 p3 p4 G k hc hd hl hline
    rw [aAbB]
    exact PE.index (l := sg) PE.cstr (PE.name ok hl hd) (ix_occ c hc) rfl hline rfl
  refine ex_ret (base := base) fe (hb0.tr F.keep) F (P := vi (sc a b)) (PE.ite (b := (a == b)) (PT.cmp (PE.name ok rfl rfl) (PE.name ok rfl rfl) oc_eqs' rfl) (fun h => PE.cint.congr ?_) (fun h => PE.ite (PT.cmp
      (PE.bin (hid a "one" _ _ _ _ _ _ ha rfl rfl rfl) PE.cint (ob_div (by decide) (ix_div a ha)))
      (PE.bin (hid b "other" _ _ _ _ _ _ hb rfl rfl rfl) PE.cint (ob_div (by decide) (ix_div b hb))) oc_eq rfl) (fun h' => PE.cint.congr ?_) (fun h' => PE.cint.congr ?_))) fun v h2 t2 k2 p => F.ret k2 p
  · have : a = b := by simpa using h
    rw [← hh, if_pos this]
  · have : a ≠ b := by simpa using h
    rw [← hh, if_neg this, if_pos h']
  · have : a ≠ b := by simpa using h
    rw [← hh, if_neg this, if_neg (by rw [h']; decide)]
where
  oc_eqs' {base : Heap} {A : Around} {a b : Nat} : OpC prog w base A .Eq (vs (S [a])) (vs (S [b])) (a == b) := by
    have := oc_eqs (prog := prog) (w := w) (base := base) (A := A) (a := [a]) (b := [b])
    have e : ([a] == [b]) = (a == b) := by simp
    rw [e] at this; exact this
end
end Mine
namespace Mine
open PySem PyProof.Rows PySem.Calls

/-- the least cost, from the front on -/
def ed : List Nat → List Nat → Int
  | [], b => 2 * (b.length : Int)
  | x :: a, [] => 2 * ((x :: a).length : Int)
  | x :: a, y :: b => min (sc x y + ed a b) (min (2 + ed a (y :: b)) (2 + ed (x :: a) b))
termination_by a b => a.length + b.length

theorem ed_nil_left (b : List Nat) : ed [] b = 2 * (b.length : Int) := by unfold ed; rfl
theorem ed_nil_right (a : List Nat) : ed a [] = 2 * (a.length : Int) := by
  cases a with
  | nil => unfold ed; rfl
  | cons x a => unfold ed; rfl
theorem ed_cons (x y : Nat) (a b : List Nat) : ed (x :: a) (y :: b) = min (sc x y + ed a b) (min (2 + ed a (y :: b)) (2 + ed (x :: a) b)) := by
  conv => lhs; unfold ed

/-- the table while it is filled: rows from n - i on are done, and of the row ahead those from m - i' on -/
def tbE (one two : List Nat) (i i' j k : Nat) : Int :=
  if one.length ≤ j + i ∨ (j + i + 1 = one.length ∧ two.length ≤ k + i') then ed (one.drop j) (two.drop k) else 2 * ((two.length : Int) - k) + 2 * ((one.length : Int) - j)
def tbR (one two : List Nat) (i i' j : Nat) : List Int := (List.range (two.length + 1)).map (tbE one two i i' j)
def tb (one two : List Nat) (i i' : Nat) : List (List Int) := (List.range (one.length + 1)).map (tbR one two i i')
def vrows (t : List (List Int)) : List (List VP) := t.map fun r => r.map vi

theorem tb_get {one two : List Nat} {i i' j : Nat} (hj : j ≤ one.length) : (tb one two i i')[j]? = some (tbR one two i i' j) := by
  unfold tb; rw [List.getElem?_map, List.getElem?_range (by omega)]; rfl
theorem tbR_get {one two : List Nat} {i i' j k : Nat} (hk : k ≤ two.length) : (tbR one two i i' j)[k]? = some (tbE one two i i' j k) := by
  unfold tbR; rw [List.getElem?_map, List.getElem?_range (by omega)]; rfl

theorem tbE_done {one two : List Nat} {i i' j k : Nat} (h : one.length ≤ j + i ∨ (j + i + 1 = one.length ∧ two.length ≤ k + i')) : tbE one two i i' j k = ed (one.drop j) (two.drop k) := if_pos h
/-- at the edge nothing is to be done -/
theorem tbE_edge {one two : List Nat} {i i' j k : Nat} (hj : j ≤ one.length) (hk : k ≤ two.length) (h : j = one.length ∨ k = two.length) : tbE one two i i' j k = ed (one.drop j) (two.drop k) := by
  unfold tbE
  split
  · rfl
  · rcases h with h | h
    · subst h; simp [ed_nil_left]; omega
    · subst h; simp [ed_nil_right]; omega
theorem tbE_step {one two : List Nat} {i i' j k : Nat} (hj : j + i + 1 = one.length) (hk : k + i' + 1 = two.length) :
    min (sc (one.getD j 0) (two.getD k 0) + tbE one two i i' (j + 1) (k + 1)) (min (2 + tbE one two i i' (j + 1) k) (2 + tbE one two i i' j (k + 1))) = ed (one.drop j) (two.drop k) := by
  have hj' : j < one.length := by omega
  have hk' : k < two.length := by omega
  rw [tbE_done (.inl (by omega)), tbE_done (.inl (by omega)), tbE_done (.inr ⟨hj, by omega⟩)]
  rw [List.drop_eq_getElem_cons hj', List.drop_eq_getElem_cons hk', ed_cons]
  simp [List.getD, hj', hk']

theorem tb_set {one two : List Nat} {i i' j k : Nat} (hj : j + i + 1 = one.length) (hk : k + i' + 1 = two.length) :
    (tb one two i i').set j ((tbR one two i i' j).set k (ed (one.drop j) (two.drop k))) = tb one two i (i' + 1) := by
  apply List.ext_getElem (by simp [tb])
  intro p h1 h2
  have hp : p ≤ one.length := by simp [tb] at h2; omega
  rw [List.getElem_set]
  have e2 : (tb one two i (i' + 1))[p] = tbR one two i (i' + 1) p := by simp [tb]
  rw [e2]
  split
  · rename_i hpj
    subst hpj
    apply List.ext_getElem (by simp [tbR])
    intro q g1 g2
    rw [List.getElem_set]
    simp only [tbR, List.getElem_map, List.getElem_range]
    split
    · rename_i hq; subst hq
      rw [tbE_done (.inr ⟨hj, by omega⟩)]
    · rename_i hq
      unfold tbE
      have : (two.length ≤ q + i') ↔ (two.length ≤ q + (i' + 1)) := by omega
      simp only [this]
  · rename_i hpj
    simp only [tb, List.getElem_map, List.getElem_range]
    apply List.ext_getElem (by simp [tbR])
    intro q g1 g2
    simp only [tbR, List.getElem_map, List.getElem_range]
    unfold tbE
    have : ¬ (p + i + 1 = one.length) := by omega
    simp [this]
theorem tb_next {one two : List Nat} {i : Nat} (hi : i < one.length) : tb one two i two.length = tb one two (i + 1) 0 := by
  apply List.ext_getElem (by simp [tb])
  intro p h1 h2
  have hp : p ≤ one.length := by simp [tb] at h2; omega
  simp only [tb, List.getElem_map, List.getElem_range]
  apply List.ext_getElem (by simp [tbR])
  intro q g1 g2
  have hq : q ≤ two.length := by simp [tbR] at g2; omega
  simp only [tbR, List.getElem_map, List.getElem_range]
  by_cases h : one.length ≤ p + (i + 1)
  · rw [tbE_done (.inl h)]
    rcases Nat.eq_or_lt_of_le h with h' | h'
    · exact tbE_done (.inr ⟨by omega, by omega⟩)
    · exact tbE_done (.inl (by omega))
  · by_cases he : q = two.length
    · rw [tbE_edge hp hq (.inr he), tbE_edge hp hq (.inr he)]
    · unfold tbE
      rw [if_neg (by omega), if_neg (by omega)]
theorem tb_first {one two : List Nat} : tb one two 0 0 = (List.range (one.length + 1)).map fun j => (List.range (two.length + 1)).map fun (k : Nat) => 2 * ((two.length : Int) - k) + 2 * ((one.length : Int) - (j : Nat)) := by
  apply List.ext_getElem (by simp [tb])
  intro p h1 h2
  have hp : p ≤ one.length := by simp [tb] at h1; omega
  simp only [tb, List.getElem_map, List.getElem_range]
  apply List.ext_getElem (by simp [tbR])
  intro q g1 g2
  have hq : q ≤ two.length := by simp [tbR] at g1; omega
  simp only [tbR, List.getElem_map, List.getElem_range]
  by_cases h : p = one.length
  · rw [tbE_edge hp hq (.inl h)]
    subst h; simp [ed_nil_left]; omega
  · by_cases h' : q = two.length
    · rw [tbE_edge hp hq (.inr h')]
      subst h'; simp [ed_nil_right]; omega
    · unfold tbE
      rw [if_neg (by omega)]

/-- ranges that count down -/
theorem rsizeD (n : Nat) : Builtin.Range.rangeSize ((n : Int) - 1) (-1) (-1) = (n : Nat) := by
  unfold Builtin.Range.rangeSize
  simp
  omega
theorem smallD {n : Nat} (h : n ≤ 1000000) : Builtin.Range.small ((n : Int) - 1) (-1) (-1) = true := by
  unfold Builtin.Range.small
  rw [rsizeD]
  simp [Builtin.Range.rangeFitsLong]
  omega
theorem rgiD_get {n i : Nat} {R : VP} (h : ((rgi ((n : Int) - 1) (-1) n).map vi)[i]? = some R) : i < n ∧ R = vi ((n - 1 - i : Nat) : Int) := by
  have hl := (List.getElem?_eq_some_iff.mp h).1
  simp [rgi] at hl
  simp [rgi, hl] at h
  refine ⟨hl, ?_⟩
  rw [← h]; congr 1; omega
theorem pylongD {x : Int} : Builtin.divisionGoesByPylong x (-1) = false := PyProof.noPylong_of_log2 (by decide)
end Mine
namespace Mine
open PySem PyProof.Rows PySem.Calls

theorem vrows_set (t : List (List Int)) (j : Nat) (r : List Int) : (vrows t).set j (r.map vi) = vrows (t.set j r) := by simp [vrows, List.map_set]
theorem vrows_get {t : List (List Int)} {j : Nat} {r : List Int} (h : t[j]? = some r) : (vrows t)[j]? = some (r.map vi) := by simp [vrows, h]
theorem vrows_flat (t : List (List Int)) : ∀ Ps ∈ vrows t, ∀ P ∈ Ps, Flat P := by
  intro Ps h P hP
  obtain ⟨r, _, rfl⟩ := List.mem_map.mp h
  obtain ⟨i, _, rfl⟩ := List.mem_map.mp hP
  exact flat_vi i
theorem flat_vis (l : List Int) : ∀ P ∈ l.map vi, Flat P := by
  intro P hP
  obtain ⟨i, _, rfl⟩ := List.mem_map.mp hP
  exact flat_vi i

section
variable {prog : Program} {w : World} {base : Heap} {A : Around} {mg mb : Str → Option Value} {E : Value → Shared → Prop} {s₀ s : Shared} {env : Env} {G : List (Str × VP)}

theorem PE.at2 {e0 e1 e2 : Expr} {p2 p3 : Pos} {t : List (List Int)} {j k : Nat} {row : List Int} {x : Int} (ht : PE prog w base A env G e0 (vl ((vrows t).map vl))) (h1 : PE prog w base A env G e1 (vi (j : Int))) (h2 : PE prog w base A env G e2 (vi (k : Int)))
    (hj : t[j]? = some row) (hk : row[k]? = some x) (bj : j < 1000) (bk : k < 1000) (hs1 : ∀ o i, subscripted e1 false o i = operate [o, i] (getItem o i)) (hs2 : ∀ o i, subscripted e2 false o i = operate [o, i] (getItem o i)) :
    PE prog w base A env G (.Subscript (.Subscript e0 e1 p2) e2 p3) (vi x) := by
  refine PE.item_l (Ps := row.map vi) (PE.item_l (Ps := (vrows t).map vl) ht h1 (by omega) (by omega) ?_ hs1) h2 (by omega) (by omega) ?_ hs2
  · simp only [Int.toNat_natCast, List.getElem?_map, vrows_get hj, Option.map_some]
  · simp only [Int.toNat_natCast, List.getElem?_map, hk, Option.map_some]

theorem PE.sgn {value slice : Expr} {pos : Pos} {l : List Nat} {i : Nat} {c : Nat} (hv : PE prog w base A env G value (vs (S l))) (hi : PE prog w base A env G slice (vi (i : Int))) (hc : l[i]? = some c) (hb : l.length < 1000)
    (hs : ∀ o i, subscripted slice false o i = operate [o, i] (getItem o i)) : PE prog w base A env G (.Subscript value slice pos) (vs (S [c])) := by
  have hl := (List.getElem?_eq_some_iff.mp hc).1
  exact PE.item_s (l := l) (i := (i : Int)) (c := c) hv hi (by omega) (by rw [seqIx hl]; exact hc) hs

abbrev tbOut : List Stmt := forBody (fbody 8)[1]?
abbrev tbIn : List Stmt := forBody tbOut[0]?

theorem kmu {h : Heap} {R : Addr} {rs : List Addr} {rows : List (List VP)} (L : LL Heap.IsList s₀.heap h R rs rows) (F : Fs s₀ env G s) (hh : s.heap = h) : (∀ b ∈ rs ++ fa env, ∃ o, s.heap.get? b = some o) ∧ (∀ b ∈ rs ++ fa env, s₀.heap.get? b = none) := by
  subst hh
  refine ⟨fun b hb => ?_, fun b hb => ?_⟩ <;> rcases List.mem_append.mp hb with hb | hb
  · obtain ⟨o, e, _⟩ := L.has zok_isList b (List.mem_cons_of_mem _ hb); exact ⟨o, e⟩
  · obtain ⟨o, e, _⟩ := F.fa_some b hb; exact ⟨o, e⟩
  · exact L.new b (List.mem_cons_of_mem _ hb)
  · exact F.fa_fresh b hb

theorem table_in (W : W1 mg mb base) (hA : OkA A 989) (he : env.scope = fscope 8) (fe : FEnv env) {one two : List Nat} {i j : Nat} {R : Addr} {rs : List Addr} {Q : Flow → Shared → Prop}
    (h1 : ∀ c ∈ one, c ∈ sg) (h2 : ∀ c ∈ two, c ∈ sg) (hl1 : one.length ≤ 40) (hl2 : two.length ≤ 40) (hb : Kp base s₀.heap) (hj : j + i + 1 = one.length)
    (F : Fs s₀ env [("j", vi (j : Int)), ("table", vr R), ("one", vs (S one)), ("two", vs (S two))] s) (L : LL Heap.IsList s₀.heap s.heap R rs (vrows (tb one two i 0)))
    (k : ∀ s', Fs s₀ env [("table", vr R), ("one", vs (S one)), ("two", vs (S two))] s' → LL Heap.IsList s₀.heap s'.heap R rs (vrows (tb one two i two.length)) → KX (rs ++ fa env) s.heap s'.heap → Q .next s') :
    wpAny (model prog w) A (execs tbOut env) Q E s := by
  have ok := fe.toEnvOk
  obtain ⟨mu1, mu0⟩ := kmu L F rfl
  refine ex_for (base := base) fe (hb.tr F.keep) F (rs ++ fa env) ((rgi ((two.length : Int) - 1) (-1) two.length).map vi)
    (PE.tcall he ok W.B W.nrange rfl rfl (by decide) rfl (do_range3 (by decide) pylongD) (PA.cons (PE.bin (PE.len_s he ok W.B W.nlen (by omega) rfl (PE.name ok rfl rfl) rfl) PE.cint ob_sub) (PA.cons PE.neg (PA.cons PE.neg PA.nil rfl) rfl) rfl) rfl)
    (fun h' v _ hv => it_range hA.h hv (smallD (by omega)) (rsizeD _)) (flat_vis _) mu1 mu0
    (fun i' s' => i' ≤ two.length ∧ LL Heap.IsList s₀.heap s'.heap R rs (vrows (tb one two i i')) ∧ Fs s₀ env [("j", vi (j : Int)), ("table", vr R), ("one", vs (S one)), ("two", vs (S two))] s')
    ?_ ?_ ?_ ?_ (by intro x; rfl)
  · intro h' tk kp F'
    exact ⟨Nat.zero_le _, L.ks zok_isList kp.ks, F'⟩
  · rintro i' s' h' tk ⟨hi', L', F'⟩ kn k0
    exact ⟨hi', L'.ks zok_isList kn.ks, F'.kn kn k0⟩
  · rintro i' Rv s' v E' hR hRv ⟨hi', L', F'⟩ kx hsame
    obtain ⟨hlt, rfl⟩ := rgiD_get hR
    obtain ⟨q, hq⟩ : ∃ q, q = two.length - 1 - i' := ⟨_, rfl⟩
    rw [← hq] at hRv
    have hk : q + i' + 1 = two.length := by omega
    refine store_ fe F' (kdl he (.inl rfl)) hRv (flat_vi _).sq fun h1' t1 k1 F1 => ?_
    have L1 := L'.ks zok_isList k1.ks
    have Wc := W.mono (hb.tr F1.keep)
    obtain ⟨f, hf⟩ := Wc.fprice
    have hlj : j < rs.length := by rw [L1.len]; simp [vrows, tb]; omega
    obtain ⟨r, hr⟩ : ∃ r, rs[j]? = some r := ⟨_, List.getElem?_eq_getElem hlj⟩
    obtain ⟨us, hus, hx⟩ := L1.row j r _ hr (vrows_get (tb_get (by omega)))
    have hus' : us.length = two.length + 1 := by have := hx.length; simpa [tbR] using this
    have c1 : one[j]? = some (one.getD j 0) := by simp [List.getD, show j < one.length by omega]
    have c2 : two[q]? = some (two.getD q 0) := by simp [List.getD, show q < two.length by omega]
    have m1 := h1 _ (List.mem_of_getElem? c1)
    have m2 := h2 _ (List.mem_of_getElem? c2)
    have T : PE prog w h1' A env (("k", vi (q : Int)) :: [("j", vi (j : Int)), ("table", vr R), ("one", vs (S one)), ("two", vs (S two))]) (.Name "table" ⟨56, 59, 56, 64⟩) (vl ((vrows (tb one two i i')).map vl)) := PE.known (PE.name ok rfl rfl) (L1.vl zok_isList)
    have Tp : ∀ p, PE prog w h1' A env (("k", vi (q : Int)) :: [("j", vi (j : Int)), ("table", vr R), ("one", vs (S one)), ("two", vs (S two))]) (.Name "table" p) (vl ((vrows (tb one two i i')).map vl)) := fun p => PE.known (PE.name ok rfl rfl) (L1.vl zok_isList)
    refine ex_set (base := h1') (us := us) (r := r) (k := (q : Int)) (P := vi (ed (one.drop j) (two.drop q))) fe Kp.rf F1 (flatG ?_) rfl (flat_vi _)
      ((PE.bcall he ok Wc.B Wc.nmin rfl rfl (by decide) rfl (do_min3 hA.h) (PA.cons
        (PE.bin (PE.callD he ok Wc.B hf rfl rfl (PA.cons (PE.sgn (PE.name ok rfl rfl) (PE.name ok rfl rfl) c1 (by omega) (by intro _ _; rfl)) (PA.cons (PE.sgn (PE.name ok rfl rfl) (PE.name ok rfl rfl) c2 (by omega) (by intro _ _; rfl)) PA.nil rfl) rfl) rfl (c_price Wc (hA.mono (by decide)) hf m1 m2))
          (PE.at2 (j := j + 1) (k := q + 1) (Tp _) (PE.bin (PE.name ok rfl rfl) PE.cint ob_add) (PE.bin (PE.name ok rfl rfl) PE.cint ob_add) (tb_get (by omega)) (tbR_get (by omega)) (by omega) (by omega) (by intro _ _; rfl) (by intro _ _; rfl)) ob_add)
        (PA.cons (PE.bin PE.cint (PE.at2 (j := j + 1) (k := q) (Tp _) (PE.bin (PE.name ok rfl rfl) PE.cint ob_add) (PE.name ok rfl rfl) (tb_get (by omega)) (tbR_get (by omega)) (by omega) (by omega) (by intro _ _; rfl) (by intro _ _; rfl)) ob_add)
        (PA.cons (PE.bin PE.cint (PE.at2 (j := j) (k := q + 1) (Tp _) (PE.name ok rfl rfl) (PE.bin (PE.name ok rfl rfl) PE.cint ob_add) (tb_get (by omega)) (tbR_get (by omega)) (by omega) (by omega) (by intro _ _; rfl) (by intro _ _; rfl)) ob_add) PA.nil rfl) rfl) rfl) rfl).congr (by rw [tbE_step hj hk]))
      (PE.item_l (R := vr r) (Ps := rs.map vr) (PE.known (PE.name ok rfl rfl) (L1.vr zok_isList)) (PE.name ok rfl rfl) (by omega) (by omega) (by simp [hr]) (by intro _ _; rfl)) (PE.name ok rfl rfl)
      hus (L1.new r (List.mem_cons_of_mem _ (List.mem_of_getElem? hr))) (by omega) (by omega) (by omega) ?_
    · intro p hp
      simp only [List.mem_cons, List.not_mem_nil, or_false] at hp
      rcases hp with rfl | rfl | rfl | rfl | rfl <;> first | exact flat_vi _ | exact flat_vs _ | exact flat_vr _
    intro v6 h6 t6 k6 p6 hl6 F6
    rw [Int.toNat_natCast] at hl6
    have hx6 := all2_set (all2_vi (h' := h6) hx) p6 q
    have L6 := L1.upd zok_isList hr k6 hl6 hx6 (flat_vis _)
    rw [vrows_set, tb_set hj hk] at L6
    refine ex_nil ⟨⟨by omega, L6, F6.sl ⟨rfl, rfl, rfl, rfl, trivial⟩⟩, ?_, F6.same⟩
    refine (k1.kx.mono fun p hp => List.mem_append.mpr (.inr hp)).tr (k6.mono fun p hp => ?_)
    have : p = r := by simpa using hp
    exact List.mem_append.mpr (.inl (this ▸ List.mem_of_getElem? hr))
  · rintro s' ⟨hi', L', F'⟩ kx hsame
    have e : ((rgi ((two.length : Int) - 1) (-1) two.length).map vi).length = two.length := by simp [rgi]
    rw [e] at L'
    exact ex_nil (k s' (F'.sl ⟨rfl, rfl, rfl, trivial⟩) L' kx)
end
end Mine
namespace Mine
open PySem PyProof.Rows PySem.Calls

theorem rsize0 {x : Int} {n : Nat} (h : x = n) : Builtin.Range.rangeSize 0 x 1 = (n : Nat) := by subst h; exact rsize01 n
theorem small0 {x : Int} {n : Nat} (h : x = n) (hn : n ≤ 1000000) : Builtin.Range.small 0 x 1 = true := by subst h; exact small01 hn
theorem flatten_single {α : Type} : ∀ l : List α, (l.map fun x => [x]).flatten = l
  | [] => rfl
  | a :: l => by simp [flatten_single l]
/-- Gf in a comprehension: names as they are -/
theorem gf_same {G Gf : List (Str × VP)} {scope : Scope} (h : ∀ p ∈ Gf, Flat p.2 ∧ scope.names.lookup p.1 = some .free ∧ G.lookup p.1 = some p.2) :
    ∀ h₁ : Heap, ∀ y P', Gf.lookup y = some P' → Flat P' ∧ scope.names.lookup y = some .free ∧ ∃ P, G.lookup y = some P ∧ ∀ v, P.p h₁ v → P'.p h₁ v := by
  intro h₁ y P' e
  obtain ⟨a, b, c⟩ := h (y, P') (mem_of_lookup e)
  exact ⟨a, b, P', c, fun _ x => x⟩
theorem swaps_yes {env : Env} {elt : Expr} {gens : List Comprehension} {scope : Scope} {p p' : Pos} {x : Str} {n : Nat} (fe : FEnv env) (hk : env.kindOf x = some .local)
    (h : (p'.line == (Expr.ListComp elt gens scope p).pos.line && !(scope.names.any fun (n, k) => n == x && (k == .local || k == .cell))) = true) : swapsWith (.ListComp elt gens scope p) (some (.Name x p')) n env = pure true := by
  have hb : env.blockKind = .function := by unfold Env.blockKind; simp [fe.k]
  show (pure (env.blockKind == .function && env.kindOf x == some .local && p'.line == (Expr.ListComp elt gens scope p).pos.line && !(scope.names.any fun (n, k) => n == x && (k == .local || k == .cell))) : Sem Bool) = _
  rw [hb, hk, Bool.and_assoc, h]
  rfl
theorem sub_last {s s' : Str} {P : Str → Prop} (h : P s') (e : s = s') : P s := e ▸ h

section
variable {prog : Program} {w : World} {base : Heap} {A : Around} {mg mb : Str → Option Value} {E : Value → Shared → Prop} {s₀ s : Shared} {env : Env} {G : List (Str × VP)}

theorem Fs.named (F : Fs s₀ env G s) {x : Str} {P : VP} (h : G.lookup x = some P) : ∃ v, P.p s.heap v ∧ ∀ P', Sq P' → P'.p s.heap v → Fs s₀ env ((x, P') :: G) s := by
  obtain ⟨m, cm, ic, hv⟩ := F.ic
  obtain ⟨v, h1, h2⟩ := hv x P h
  refine ⟨v, h2, fun P' hq hp => ⟨⟨m, cm, ic, fun y Q e => ?_⟩, fun y Q e => ?_⟩⟩ <;> rcases lookup_cons_cases e with ⟨rfl, rfl⟩ | ⟨_, e⟩
  · exact ⟨v, h1, hp⟩
  · exact hv y Q e
  · exact hq
  · exact F.sq y Q e
/-- the free names of a comprehension, one by one -/
theorem free_of {scope : Scope} (l : List Str) (hl : (scope.names.filterMap fun p => if p.2 == .free then some p.1 else none) = l) (h : ∀ y ∈ l, env.kindOf y ≠ some .local ∧ ∃ P, G.lookup y = some P) :
    ∀ y, (y, NameKind.free) ∈ scope.names → env.kindOf y ≠ some .local ∧ ∃ P, G.lookup y = some P := by
  intro y hy
  refine h y ?_
  rw [← hl]
  exact List.mem_filterMap.mpr ⟨(y, .free), hy, rfl⟩
theorem ne_local {k : NameKind} {x : Str} (h : env.kindOf x = some k) (hk : k ≠ .local) : env.kindOf x ≠ some .local := by
  rw [h]; intro e; cases e; exact hk rfl
theorem Kn.nl {sc : Scope} (h : Kn env sc) {x : Str} (hx : sc.names.lookup x = some .free) : env.kindOf x ≠ some .local := by
  rcases h x .free hx with e | ⟨_, e⟩ <;> (rw [e]; decide)

theorem table_body (W : W1 mg mb base) (hA : OkA A 989) (he : env.scope = fscope 8) (fe : FEnv env) {one two : List Nat}
    (h1 : ∀ c ∈ one, c ∈ sg) (h2 : ∀ c ∈ two, c ∈ sg) (hl1 : one.length ≤ 40) (hl2 : two.length ≤ 40) (hb : Kp base s₀.heap)
    (F : Fs s₀ env [("one", vs (S one)), ("two", vs (S two))] s) :
    wpAny (model prog w) A (execs (fbody 8) env) (Ret s₀ (vll Heap.IsList zok_isList base (vrows (tb one two one.length 0)))) E s := by
  have ok := fe.toEnvOk
  have Ws := W.mono (hb.tr F.keep)
  refine ex_assignC (base := s.heap) fe Kp.rf F (kd he rfl) (swaps_yes fe (kd he rfl) rfl) (P := vll Heap.IsList zok_isList s.heap (vrows (tb one two 0 0))) sq_vll
    (PC.compLL ((rgi 0 1 (one.length + 1)).map vi) (vrows (tb one two 0 0)) (F.ce fe) ⟨by decide, rfl, by decide, by decide⟩
      (PE.tcall he ok Ws.B Ws.nrange rfl rfl (by decide) rfl do_range1 (PA.cons (PE.bin (PE.len_s he ok Ws.B Ws.nlen (by omega) rfl (PE.name ok rfl rfl) rfl) PE.cint ob_add) PA.nil rfl) rfl)
      (fun h v hv => it_range hA.h hv (small0 (n := one.length + 1) (by simp) (by omega)) (rsize0 (n := one.length + 1) (by simp))) (flat_vis _)
      (fun _ => [("one", vs (S one)), ("two", vs (S two))]) (fun h₁ _ => gf_same (by
        intro p hp
        simp only [List.mem_cons, List.not_mem_nil, or_false] at hp
        rcases hp with rfl | rfl <;> exact ⟨flat_vs _, rfl, rfl⟩) h₁)
      (free_of ["one", "two"] (by decide) (by
        intro y hy
        simp only [List.mem_cons, List.not_mem_nil, or_false] at hy
        rcases hy with rfl | rfl
        · exact ⟨ne_local (kd he rfl : env.kindOf _ = some .cell) (by decide), _, rfl⟩
        · exact ⟨ne_local (kd he rfl : env.kindOf _ = some .cell) (by decide), _, rfl⟩)) (.inr rfl)
      (by simp [vrows, tb, rgi]) (vrows_flat _) (by simp [vrows, tb]; exact Nat.le_trans (by omega : one.length + 1 ≤ 100) (by decide)) ?el) ?_
  case el =>
    intro base' cenv base'' i R row kb hce hkn kb' hR hrow
    obtain ⟨hi, rfl⟩ := rgi01_get hR
    have okc := hce.toEnvOk
    have Wc := Ws.mono (kb.tr kb')
    have hrow' : row = ((List.range (two.length + 1)).map fun (k : Nat) => 2 * ((two.length : Int) - k) + 2 * ((one.length : Int) - i)).map vi := by
      rw [tb_first, vrows, List.getElem?_map, List.getElem?_map, List.getElem?_range hi] at hrow
      simp only [Option.map_some, Option.some.injEq] at hrow
      exact hrow.symm
    subst hrow'
    refine ((PC.comp1 ((rgi 0 1 (two.length + 1)).map vi) ((((List.range (two.length + 1)).map fun (k : Nat) => 2 * ((two.length : Int) - k) + 2 * ((one.length : Int) - i)).map vi).map fun x => [x]) hce ⟨by decide, rfl, by decide, by decide⟩
      (PE.tc okc Wc.B Wc.nrange rfl (hkn.g rfl) (by decide) rfl do_range1 (PA.cons (PE.bin (PE.lens okc Wc.B Wc.nlen (by omega) (hkn.g rfl) (PE.name okc rfl rfl) rfl) PE.cint ob_add) PA.nil rfl) rfl)
      (fun h v hv => it_range hA.h hv (small0 (n := two.length + 1) (by simp) (by omega)) (rsize0 (n := two.length + 1) (by simp))) (flat_vis _)
      (fun _ => [("j", vi (i : Int)), ("one", vs (S one)), ("two", vs (S two))]) (fun h₁ _ => gf_same (by
        intro p hp
        simp only [List.mem_cons, List.not_mem_nil, or_false] at hp
        rcases hp with rfl | rfl | rfl
        · exact ⟨flat_vi _, rfl, rfl⟩
        · exact ⟨flat_vs _, rfl, rfl⟩
        · exact ⟨flat_vs _, rfl, rfl⟩) h₁)
      (free_of ["j", "one", "two"] (by decide) (by
        intro y hy
        simp only [List.mem_cons, List.not_mem_nil, or_false] at hy
        rcases hy with rfl | rfl | rfl
        · exact ⟨ne_local (hkn.s (k := .cell) rfl (by decide)) (by decide), _, rfl⟩
        · exact ⟨hkn.nl rfl, _, rfl⟩
        · exact ⟨hkn.nl rfl, _, rfl⟩)) (.inl rfl)
      (by simp [rgi]) ?_ (by rw [flatten_single]; simp; exact Nat.le_trans (by omega : two.length + 1 ≤ 100) (by decide)) ?_).pe (sq_vlp ?_)).weaken (fun _ _ x => by rw [flatten_single] at x; exact vlp_vln x)
    · intro o ho P hP
      obtain ⟨x, hx, rfl⟩ := List.mem_map.mp ho
      have : P = x := by simpa using hP
      subst this
      obtain ⟨y, _, rfl⟩ := List.mem_map.mp hx
      exact flat_vi y
    rotate_left
    · rw [flatten_single]; exact fun P hP => (flat_vis _ P hP).sq
    · intro b1 cenv2 b2 i2 R2 out kb1 hce2 hkn2 kb2 hR2 hout
      obtain ⟨hi2, rfl⟩ := rgi01_get hR2
      have okc2 := hce2.toEnvOk
      have Wd := Wc.mono (kb1.tr kb2)
      have hout' : out = [vi (2 * ((two.length : Int) - (i2 : Nat)) + 2 * ((one.length : Int) - i))] := by
        rw [List.getElem?_map, List.getElem?_map, List.getElem?_map, List.getElem?_range hi2] at hout
        simpa using hout.symm
      subst hout'
      refine ⟨true, rfl, fun _ => ⟨_, rfl, ?_⟩, fun h => nomatch h⟩
      exact PE.bin (PE.bin PE.cint (PE.bin (PE.lens okc2 Wd.B Wd.nlen (by omega) (hkn2.g rfl) (PE.name okc2 rfl rfl) rfl) (PE.name okc2 rfl rfl) ob_sub) (ob_mul mul2'))
        (PE.bin PE.cint (PE.bin (PE.lens okc2 Wd.B Wd.nlen (by omega) (hkn2.g rfl) (PE.name okc2 rfl rfl) rfl) (PE.name okc2 rfl rfl) ob_sub) (ob_mul mul2')) ob_add
  intro h3 t3 k3 F3
  obtain ⟨vT, ⟨R, rs, rfl, LT⟩, hnm⟩ := F3.named (x := "table") rfl
  have F4 := (hnm (vr R) (flat_vr _).sq rfl).sl (G' := [("table", vr R), ("one", vs (S one)), ("two", vs (S two))]) ⟨rfl, rfl, rfl, trivial⟩
  have L4 := LT.mono F.keep
  obtain ⟨mu1, mu0⟩ := kmu L4 F4 rfl
  refine ex_for (base := base) fe (hb.tr F4.keep) F4 (rs ++ fa env) ((rgi ((one.length : Int) - 1) (-1) one.length).map vi)
    (PE.tcall he ok W.B W.nrange rfl rfl (by decide) rfl (do_range3 (by decide) pylongD) (PA.cons (PE.bin (PE.len_s he ok W.B W.nlen (by omega) rfl (PE.name ok rfl rfl) rfl) PE.cint ob_sub) (PA.cons PE.neg (PA.cons PE.neg PA.nil rfl) rfl) rfl) rfl)
    (fun h' v _ hv => it_range hA.h hv (smallD (by omega)) (rsizeD _)) (flat_vis _) mu1 mu0
    (fun i s' => i ≤ one.length ∧ LL Heap.IsList s₀.heap s'.heap R rs (vrows (tb one two i 0)) ∧ Fs s₀ env [("table", vr R), ("one", vs (S one)), ("two", vs (S two))] s')
    ?_ ?_ ?_ ?_ (by intro x; rfl)
  · intro h' tk kp F'
    exact ⟨Nat.zero_le _, L4.ks zok_isList kp.ks, F'⟩
  · rintro i s' h' tk ⟨hi, L', F'⟩ kn k0
    exact ⟨hi, L'.ks zok_isList kn.ks, F'.kn kn k0⟩
  · rintro i Rv s' v E' hR hRv ⟨hi, L', F'⟩ kx hsame
    obtain ⟨hlt, rfl⟩ := rgiD_get hR
    refine store_ fe F' (kdl he (.inl rfl)) hRv (flat_vi _).sq fun h1' t1 k1 F1 => ?_
    refine table_in (j := one.length - 1 - i) W hA he fe h1 h2 hl1 hl2 hb (by omega) F1 (L'.ks zok_isList k1.ks) fun s5 F5 L5 kx5 => ?_
    rw [tb_next hlt] at L5
    exact ⟨⟨hlt, L5, F5⟩, (k1.kx.mono fun p hp => List.mem_append.mpr (.inr hp)).tr kx5, F5.same⟩
  · rintro s' ⟨hi, L', F'⟩ kx hsame
    have e : ((rgi ((one.length : Int) - 1) (-1) one.length).map vi).length = one.length := by simp [rgi]
    rw [e] at L'
    refine ex_ret (base := base) fe (hb.tr F'.keep) F' (PE.name ok rfl rfl) fun v h6 t6 k6 p => F'.ret k6 ?_
    have : v = .ref R := p
    subst this
    exact ⟨R, rs, rfl, (L'.ks zok_isList k6.ks).mono hb⟩

theorem c_table (W : W1 mg mb base) (hA : OkA A 988) {f : Addr} (hf : FnAt mg base "_law_table" (fargs 8) (fbody 8) (fscope 8) f) {one two : List Nat}
    (h1 : ∀ c ∈ one, c ∈ sg) (h2 : ∀ c ∈ two, c ∈ sg) (hl1 : one.length ≤ 40) (hl2 : two.length ≤ 40) : Does prog w base A (.ref f) [vs (S one), vs (S two)] (vll Heap.IsList zok_isList base (vrows (tb one two one.length 0))) := by
  refine does_def ["one", "two"] W.B hf (hA.room (by decide)) ?_ rfl (by decide) (by decide) (sq_flat2 (flat_vs _) (flat_vs _)) ?_
  · intro pm code doc us h
    rcases us with _ | ⟨x, _ | ⟨y, _ | ⟨z, us⟩⟩⟩ <;> simp at h
    rfl
  intro s₀ s env E he fe hb0 F
  exact table_body W (hA.deeper env) he fe h1 h2 hl1 hl2 hb0 F
end
end Mine
namespace Mine
open PySem PyProof.Rows PySem.Calls

/-- the rest of the cost at a place -/
def tt (one two : List Nat) (j k : Nat) : Int := ed (one.drop j) (two.drop k)
theorem tb_at {one two : List Nat} {j k : Nat} (hj : j ≤ one.length) (hk : k ≤ two.length) :
    (tb one two one.length 0)[j]? = some (tbR one two one.length 0 j) ∧ (tbR one two one.length 0 j)[k]? = some (tt one two j k) := by
  refine ⟨tb_get hj, ?_⟩
  rw [tbR_get hk, tbE_done (.inl (by omega))]; rfl
/-- the next place -/
def nx (one two : List Nat) (j k : Nat) : Nat × Nat :=
  if j < one.length ∧ k < two.length ∧ tt one two j k = sc (one.getD j 0) (two.getD k 0) + tt one two (j + 1) (k + 1) then (j + 1, k + 1)
  else if j < one.length ∧ tt one two j k = 2 + tt one two (j + 1) k then (j + 1, k) else (j, k + 1)
def wd (one two : List Nat) (j k : Nat) : List Nat := two.take k ++ one.drop j
/-- the road up to a place -/
inductive Rd (one two : List Nat) : Nat → Nat → List (List Nat × Int) → Prop
  | start : Rd one two 0 0 [(one, 0)]
  | step {j k : Nat} {acc : List (List Nat × Int)} {w : List Nat} {c : Int} : Rd one two j k (acc ++ [(w, c)]) → (j < one.length ∨ k < two.length) →
      Rd one two (nx one two j k).1 (nx one two j k).2 (if wd one two (nx one two j k).1 (nx one two j k).2 = w then acc ++ [(w, c)] else acc ++ [(w, c)] ++ [(wd one two (nx one two j k).1 (nx one two j k).2, tt one two 0 0 - tt one two (nx one two j k).1 (nx one two j k).2)])

theorem tt_end_left {one two : List Nat} {j k : Nat} (h : one.length ≤ j) : tt one two j k = 2 * ((two.drop k).length : Int) := by
  unfold tt; rw [List.drop_eq_nil_of_le h, ed_nil_left]
theorem tt_end_right {one two : List Nat} {j k : Nat} (h : two.length ≤ k) : tt one two j k = 2 * ((one.drop j).length : Int) := by
  unfold tt; rw [List.drop_eq_nil_of_le h, ed_nil_right]
theorem tt_step {one two : List Nat} {j k : Nat} (hj : j < one.length) (hk : k < two.length) :
    tt one two j k = min (sc (one.getD j 0) (two.getD k 0) + tt one two (j + 1) (k + 1)) (min (2 + tt one two (j + 1) k) (2 + tt one two j (k + 1))) := by
  unfold tt
  rw [List.drop_eq_getElem_cons hj, List.drop_eq_getElem_cons hk, ed_cons]
  simp [List.getD, hj, hk]

/-- what a step does -/
theorem nx_cases {one two : List Nat} {j k : Nat} (hj : j ≤ one.length) (hk : k ≤ two.length) (h : j < one.length ∨ k < two.length) :
    (nx one two j k = (j + 1, k + 1) ∧ j < one.length ∧ k < two.length ∧ tt one two j k = sc (one.getD j 0) (two.getD k 0) + tt one two (j + 1) (k + 1)) ∨
    (nx one two j k = (j + 1, k) ∧ j < one.length ∧ tt one two j k = 2 + tt one two (j + 1) k) ∨
    (nx one two j k = (j, k + 1) ∧ k < two.length ∧ tt one two j k = 2 + tt one two j (k + 1)) := by
  unfold nx
  by_cases h1 : j < one.length ∧ k < two.length ∧ tt one two j k = sc (one.getD j 0) (two.getD k 0) + tt one two (j + 1) (k + 1)
  · exact .inl ⟨if_pos h1, h1⟩
  rw [if_neg h1]
  by_cases h2 : j < one.length ∧ tt one two j k = 2 + tt one two (j + 1) k
  · exact .inr (.inl ⟨if_pos h2, h2⟩)
  rw [if_neg h2]
  refine .inr (.inr ⟨rfl, ?_⟩)
  by_cases hj' : j < one.length
  · by_cases hk' : k < two.length
    · refine ⟨hk', ?_⟩
      have := tt_step hj' hk'
      have a : ¬ tt one two j k = sc (one.getD j 0) (two.getD k 0) + tt one two (j + 1) (k + 1) := fun e => h1 ⟨hj', hk', e⟩
      have b : ¬ tt one two j k = 2 + tt one two (j + 1) k := fun e => h2 ⟨hj', e⟩
      omega
    · exfalso
      refine h2 ⟨hj', ?_⟩
      rw [tt_end_right (by omega), tt_end_right (by omega)]
      simp; omega
  · have hk' : k < two.length := by omega
    refine ⟨hk', ?_⟩
    rw [tt_end_left (by omega), tt_end_left (by omega)]
    simp; omega
theorem nx_le {one two : List Nat} {j k : Nat} (hj : j ≤ one.length) (hk : k ≤ two.length) (h : j < one.length ∨ k < two.length) :
    (nx one two j k).1 ≤ one.length ∧ (nx one two j k).2 ≤ two.length ∧ j + k < (nx one two j k).1 + (nx one two j k).2 := by
  rcases nx_cases hj hk h with ⟨e, a, b, _⟩ | ⟨e, a, _⟩ | ⟨e, a, _⟩ <;> (rw [e]; simp only; omega)
theorem Rd.snoc {one two : List Nat} {j k : Nat} {acc : List (List Nat × Int)} (h : Rd one two j k acc) : ∃ a w c, acc = a ++ [(w, c)] := by
  cases h with
  | start => exact ⟨[], one, 0, rfl⟩
  | @step j k a w c h hjk =>
    split
    · exact ⟨a, w, c, rfl⟩
    · exact ⟨_, _, _, rfl⟩
theorem Rd.len {one two : List Nat} {j k : Nat} {acc : List (List Nat × Int)} (h : Rd one two j k acc) : acc.length ≤ j + k + 1 ∧ j ≤ one.length ∧ k ≤ two.length := by
  induction h with
  | start => simp
  | @step j k a w c h hjk ih =>
    obtain ⟨i1, i2, i3⟩ := ih
    obtain ⟨a1, a2, a3⟩ := nx_le i2 i3 hjk
    refine ⟨?_, a1, a2⟩
    split
    · omega
    · rw [List.length_append]; simp only [List.length_cons, List.length_nil]; omega
/-- words of the road are words of the signs -/
theorem wd_mem {one two : List Nat} {P : Nat → Prop} (h1 : ∀ c ∈ one, P c) (h2 : ∀ c ∈ two, P c) {j k : Nat} : ∀ c ∈ wd one two j k, P c := by
  intro c hc
  rcases List.mem_append.mp hc with hc | hc
  · exact h2 c (List.mem_of_mem_take hc)
  · exact h1 c (List.mem_of_mem_drop hc)

def vroad (acc : List (List Nat × Int)) : List (List VP) := acc.map fun p => [vs (S p.1), vi p.2]
theorem vroad_flat (acc : List (List Nat × Int)) : ∀ Ps ∈ vroad acc, ∀ P ∈ Ps, Flat P := by
  intro Ps h P hP
  obtain ⟨r, _, rfl⟩ := List.mem_map.mp h
  simp at hP
  rcases hP with rfl | rfl
  · exact flat_vs _
  · exact flat_vi _
theorem cut_to (l : List Nat) {k : Nat} (h : k ≤ l.length) : cut l none (some (k : Int)) = l.take k := by
  have e : clipN l.length (some (k : Int)) l.length = k := by unfold clipN; simp only; rw [if_neg (by omega)]; omega
  unfold cut
  rw [e]
  simp [clipN]
theorem LL.kx {Z : Heap → Addr → Array Value → Prop} {h₀ h h' : Heap} {R : Addr} {rs : List Addr} {rows : List (List VP)} {mu : List Addr} (z : ZOk Z) (L : LL Z h₀ h R rs rows) (hm : ∀ q ∈ R :: rs, q ∉ mu) (k : KX mu h h') : LL Z h₀ h' R rs rows := by
  refine ⟨z.keep _ _ _ _ (fun o e => k R o (hm R List.mem_cons_self) e) L.top, L.out, L.nd, L.new, L.len, fun i r Ps e1 e2 => ?_, L.flat⟩
  obtain ⟨us, a, b⟩ := L.row i r Ps e1 e2
  exact ⟨us, z.keep _ _ _ _ (fun o e => k r o (hm r (List.mem_cons_of_mem _ (List.mem_of_getElem? e1))) e) a, all2_flat (L.flat Ps (List.mem_of_getElem? e2)) b⟩
end Mine
namespace Mine
open PySem PyProof.Rows PySem.Calls

def whileBody (s : Option Stmt) : List Stmt := match s with | some (.While _ b _ _) => b | _ => []
abbrev rdB : List Stmt := whileBody (fbody 9)[2]?

structure RS (s₀ : Shared) (env : Env) (one two : List Nat) (R Ta : Addr) (rs ts : List Addr) (j k : Nat) (acc : List (List Nat × Int)) (s : Shared) : Prop where
  r : LL PlainL s₀.heap s.heap R rs (vroad acc)
  t : LL Heap.IsList s₀.heap s.heap Ta ts (vrows (tb one two one.length 0))
  ne : ∀ q ∈ Ta :: ts, q ≠ R
  f : Fs s₀ env [("j", vi (j : Int)), ("k", vi (k : Int)), ("road", vr R), ("table", vr Ta), ("one", vs (S one)), ("two", vs (S two))] s

section
variable {prog : Program} {w : World} {base : Heap} {A : Around} {mg mb : Str → Option Value} {E : Value → Shared → Prop} {s₀ s : Shared} {env : Env} {G : List (Str × VP)}

theorem PE.cat {l r : Expr} {p1 p2 p3 p4 p5 : Pos} {one two : List Nat} {j k : Nat} {e1 e2 : Expr} (hj : j ≤ one.length) (hk : k ≤ two.length) (hl1 : one.length ≤ 40) (hl2 : two.length ≤ 40)
    (h2 : PE prog w base A env G l (vs (S two))) (hk' : PE prog w base A env G e2 (vi (k : Int))) (h1 : PE prog w base A env G r (vs (S one))) (hj' : PE prog w base A env G e1 (vi (j : Int)))
    (ht : ∀ o x, letTemporaryGo l o x = pure ()) (ht' : ∀ o x, letTemporaryGo r o x = pure ()) :
    PE prog w base A env G (.BinOp (.Subscript l (.Slice none (some e2) none p1) p2) .Add (.Subscript r (.Slice (some e1) none none p3) p4) p5) (vs (S (wd one two j k))) := by
  have hz : ∀ l : List Nat, l.length ≤ 40 → l.length ≤ sizeLine := fun l h => Nat.le_trans h (by decide)
  have := PE.bin (op := .Add) (pos := p5) (PE.sl (p := p1) (pos := p2) (hz two hl2) h2 PO.none (PO.some hk') ht) (PE.sl (p := p3) (pos := p4) (hz one hl1) h1 (PO.some hj') PO.none ht') (ob_adds (by
    have a := cut_len_le two none (some (k : Int))
    have b := cut_len_le one (some (j : Int)) none
    exact Nat.le_trans (by omega : _ ≤ 100) (by decide)))
  rw [cut_to two hk, cut_from one hj] at this
  exact this

theorem road_tail (he : env.scope = fscope 9) (fe : FEnv env) {one two : List Nat} {R Ta : Addr} {rs ts : List Addr} {j k : Nat} {a : List (List Nat × Int)} {wl : List Nat} {c : Int} {Q : Flow → Shared → Prop}
    (hl1 : one.length ≤ 40) (hl2 : two.length ≤ 40) (hj : j ≤ one.length) (hk : k ≤ two.length) (hal : a.length ≤ 100)
    (X : RS s₀ env one two R Ta rs ts j k (a ++ [(wl, c)]) s)
    (kk : ∀ s' rs', RS s₀ env one two R Ta rs' ts j k (if wd one two j k = wl then a ++ [(wl, c)] else a ++ [(wl, c)] ++ [(wd one two j k, tt one two 0 0 - tt one two j k)]) s' → Q .next s') :
    wpAny (model prog w) A (execs (rdB.drop 2) env) Q E s := by
  have ok := fe.toEnvOk
  have F := X.f
  refine ex_if1 (base := s.heap) fe Kp.rf F (PT.cmp (PE.cat hj hk hl1 hl2 (PE.name ok rfl rfl) (PE.name ok rfl rfl) (PE.name ok rfl rfl) (PE.name ok rfl rfl) (by intro _ _; rfl) (by intro _ _; rfl))
    (PE.item_l (R := vs (S wl)) (Ps := [vs (S wl), vi c]) (PE.item_ln (Ps := (vroad (a ++ [(wl, c)])).map vl) (PE.known (PE.name ok rfl rfl) (X.r.vl zok_plainL)) PE.neg (by decide) ?_ (by decide) ?_ (by intro _ _; rfl)) PE.cint (by decide) (by decide) rfl (by intro _ _; rfl)) oc_nes rfl) ?_ ?_
  · simp [vroad]; omega
  · have hidx : (-1 + (((vroad (a ++ [(wl, c)])).map vl).length : Int)).toNat = a.length := by simp [vroad]; omega
    rw [hidx]
    simp [vroad]
  · intro hc h1 t1 k1 F1
    have hne : ¬ wd one two j k = wl := by simpa using hc
    have r1 := X.r.ks zok_plainL k1.ks
    have t1' := X.t.ks zok_isList k1.ks
    have T : ∀ p G, G.lookup ("table" : Str) = some (vr Ta) → PE prog w h1 A env G (.Name "table" p) (vl ((vrows (tb one two one.length 0)).map vl)) := fun p G hg => PE.known (PE.name ok hg rfl) (t1'.vl zok_isList)
    obtain ⟨a1, a2⟩ := tb_at (one := one) (two := two) (j := 0) (k := 0) (Nat.zero_le _) (Nat.zero_le _)
    obtain ⟨b1, b2⟩ := tb_at (one := one) (two := two) hj hk
    refine ex_append (base := h1) (r := R) (us := rs.map Value.ref) fe Kp.rf F1 (flatG ?_) (PE.name ok rfl rfl)
      (PE.listP (PA.cons (PE.cat hj hk hl1 hl2 (PE.name ok rfl rfl) (PE.name ok rfl rfl) (PE.name ok rfl rfl) (PE.name ok rfl rfl) (by intro _ _; rfl) (by intro _ _; rfl))
        (PA.cons (PE.bin (PE.at2 (j := 0) (k := 0) (T _ _ rfl) PE.cint PE.cint a1 a2 (by omega) (by omega) (by intro _ _; rfl) (by intro _ _; rfl))
          (PE.at2 (T _ _ rfl) (PE.name ok rfl rfl) (PE.name ok rfl rfl) b1 b2 (by omega) (by omega) (by intro _ _; rfl) (by intro _ _; rfl)) ob_sub) PA.nil rfl) rfl) (by show 2 ≤ _; decide))
      r1.top (r1.new R List.mem_cons_self) ?_ rfl rfl rfl rfl ?_
    · intro p hp
      simp only [List.mem_cons, List.not_mem_nil, or_false] at hp
      rcases hp with rfl | rfl | rfl | rfl | rfl | rfl <;> first | exact flat_vi _ | exact flat_vs _ | exact flat_vr _
    · have := r1.len
      simp [vroad] at this
      exact Nat.le_trans (by simp; omega : _ ≤ 200) (by decide)
    intro v h2 h3 tk k2 hv kx hpl F3
    obtain ⟨r, us, rfl, hrn, hrp, hrx⟩ := hv
    have r2 := r1.ks zok_plainL k2.ks
    have L3 := r2.app zok_plainL (r := r) (us := us) (fun q hq e => by
      obtain ⟨o, ho, _⟩ := r1.has zok_plainL q hq
      rw [e, hrn] at ho; cases ho) (F1.keep.none hrn) kx hrp hrx (by
        intro P hP; simp at hP; rcases hP with rfl | rfl
        · exact flat_vs _
        · exact flat_vi _) hpl
    refine ex_nil (ex_nil (kk _ (rs ++ [r]) ⟨?_, (t1'.ks zok_isList k2.ks).kx zok_isList (fun q hq e => X.ne q hq (by simpa using e)) kx, X.ne, F3⟩))
    rw [if_neg hne]
    simpa [vroad] using L3
  · intro hc h1 t1 k1 F1
    have he' : wd one two j k = wl := by simpa using hc
    refine ex_nil (kk _ rs ⟨?_, X.t.ks zok_isList k1.ks, X.ne, F1⟩)
    rw [if_pos he']
    exact X.r.ks zok_plainL k1.ks
end
end Mine
namespace Mine
open PySem PyProof.Rows PySem.Calls

/-- what _law_road gives back -/
def vRoad (one two : List Nat) : VP := ⟨fun h v => ∃ acc, Rd one two one.length two.length acc ∧ (vl ((vroad acc).map vl)).p h v, fun _ _ _ k ⟨acc, r, x⟩ => ⟨acc, r, VP.up _ _ _ _ k x⟩⟩

section
variable {prog : Program} {w : World} {base : Heap} {A : Around} {mg mb : Str → Option Value} {E : Value → Shared → Prop} {s₀ s : Shared} {env : Env} {G : List (Str × VP)}

theorem road_body (W : W1 mg mb base) (hA : OkA A 988) (he : env.scope = fscope 9) (fe : FEnv env) {one two : List Nat}
    (h1 : ∀ c ∈ one, c ∈ sg) (h2 : ∀ c ∈ two, c ∈ sg) (hl1 : one.length ≤ 40) (hl2 : two.length ≤ 40) (hb : Kp base s₀.heap)
    (F : Fs s₀ env [("one", vs (S one)), ("two", vs (S two))] s) :
    wpAny (model prog w) A (execs (fbody 9) env) (Ret s₀ (vRoad one two)) E s := by
  have ok := fe.toEnvOk
  have Ws := W.mono (hb.tr F.keep)
  obtain ⟨f, hf⟩ := Ws.ftable
  refine ex_assign (base := s.heap) fe Kp.rf F (kdl he (.inl rfl)) rfl (P := vll Heap.IsList zok_isList s.heap (vrows (tb one two one.length 0))) sq_vll
    (PE.callD he ok Ws.B hf rfl rfl (PA.cons (PE.name ok rfl rfl) (PA.cons (PE.name ok rfl rfl) PA.nil rfl) rfl) rfl (c_table Ws hA hf h1 h2 hl1 hl2)) ?_
  intro h3 t3 k3 F3
  obtain ⟨vT, ⟨Ta, ts, rfl, LT⟩, hnT⟩ := F3.named (x := "table") rfl
  have F3' := (hnT (vr Ta) (flat_vr _).sq rfl).sl (G' := [("table", vr Ta), ("one", vs (S one)), ("two", vs (S two))]) ⟨rfl, rfl, rfl, trivial⟩
  refine ex_swap3 (base := h3) (P1 := vi 0) (P2 := vi 0) (P3 := vlp h3 [vlp h3 [vs (S one), vi 0]]) hA.h fe Kp.rf F3' (kdl he (.inl rfl)) (kdl he (.inl rfl)) (kdl he (.inl rfl)) (flat_vi _).sq (flat_vi _).sq (sq_vlp ?_) ?_
    (PE.tup (PA.cons PE.cint (PA.cons PE.cint (PA.cons (PE.listP (PA.cons (PE.listP (PA.cons (PE.name ok rfl rfl) (PA.cons PE.cint PA.nil rfl) rfl) (by show 2 ≤ _; decide)) PA.nil rfl) (by show 1 ≤ _; decide)) PA.nil rfl) rfl) rfl) (by show 3 ≤ _; decide)) ?_
  · intro P hP
    simp at hP; subst hP
    exact sq_vlp (sq_flat2 (flat_vs _) (flat_vi _))
  · cases env; dsimp only at he; subst he; rfl
  intro h4 t4 k4 F4
  obtain ⟨vR, ⟨R, us, rfl, hRn, hRp, hRx⟩, hnR⟩ := F4.named (x := "road") rfl
  have F6 := (hnR (vr R) (flat_vr _).sq rfl).sl (G' := [("j", vi ((0 : Nat) : Int)), ("k", vi ((0 : Nat) : Int)), ("road", vr R), ("table", vr Ta), ("one", vs (S one)), ("two", vs (S two))]) ⟨rfl, rfl, rfl, rfl, rfl, rfl, trivial⟩
  have hRx' : ∃ r ps, us = [Value.ref r] ∧ h3.get? r = none ∧ PlainL h4 r (List.toArray ps) ∧ All2 h4 ps [vs (S one), vi 0] := by
    rcases us with _ | ⟨u, _ | ⟨_, _⟩⟩
    · exact hRx.elim
    · obtain ⟨⟨r, ps, e1, e2, e3, e4⟩, _⟩ := hRx
      exact ⟨r, ps, by rw [e1], e2, e3, e4⟩
    · exact hRx.2.elim
  obtain ⟨r, ps, rfl, hrn, hrp, hrx⟩ := hRx'
  have k03 : Kp s₀.heap h3 := F3.keep
  have X0 : RS s₀ env one two R Ta [r] ts 0 0 [(one, 0)] { s with heap := h4, toks := t4 } := by
    refine ⟨⟨hRp, ?_, by simp, ?_, rfl, ?_, vroad_flat _⟩, (LT.mono F.keep).ks zok_isList k4.ks, ?_, F6⟩
    · intro q
      have e : R = r := by simpa using q
      subst e
      obtain ⟨o, n, ho, _, _, hd⟩ := hRp
      obtain ⟨o', n', ho', _, _, hd'⟩ := hrp
      rw [ho] at ho'; cases ho'
      rw [hd] at hd'
      have : [Value.ref R].toArray = ps.toArray := by injection hd'
      have e2 := congrArg Array.size this
      have e3 := hrx.length
      simp at e2 e3
      omega
    · intro q hq
      simp at hq
      rcases hq with rfl | rfl
      · exact k03.none hRn
      · exact k03.none hrn
    · intro i q Ps e1 e2
      rcases i with _ | i
      · simp at e1; subst e1
        simp [vroad] at e2; subst e2
        exact ⟨ps, hrp, hrx⟩
      · simp at e1
    · intro q hq e
      obtain ⟨o, ho, hoq⟩ := LT.has zok_isList q hq
      rw [e] at ho
      have hRn' : h3.get? R = none := hRn
      rw [hRn'] at ho; cases ho
  refine ex_while (base := base) fe hb (fun n s' => ∃ j k acc rs, n = (one.length - j) + (two.length - k) ∧ Rd one two j k acc ∧ RS s₀ env one two R Ta rs ts j k acc s') (one.length + two.length) ⟨0, 0, [(one, 0)], [r], rfl, Rd.start, X0⟩ ?_
  rintro n s5 E' ⟨j, k, acc, rs, rfl, hrd, X⟩
  obtain ⟨hacc, hj, hk⟩ := hrd.len
  obtain ⟨a, wl, c, rfl⟩ := hrd.snoc
  refine ⟨_, decide (j < one.length ∨ k < two.length), X.f, ?_, ?_, ?_⟩
  · refine PT.congr (PT.or (PT.cmp (PE.name ok rfl rfl) (PE.len_s he ok W.B W.nlen (by omega) rfl (PE.name ok rfl rfl) rfl) oc_lt rfl) fun _ => PT.or (PT.cmp (PE.name ok rfl rfl) (PE.len_s he ok W.B W.nlen (by omega) rfl (PE.name ok rfl rfl) rfl) oc_lt rfl) fun _ => PT.or_nil) ?_
    by_cases c1 : j < one.length <;> by_cases c2 : k < two.length <;> simp [c1, c2]
  · intro hc h6 t6 k6 F6'
    have hor : j < one.length ∨ k < two.length := of_decide_eq_true hc
    obtain ⟨n1, n2, n3⟩ := nx_le hj hk hor
    have r6 := X.r.ks zok_plainL k6.ks
    have t6' := X.t.ks zok_isList k6.ks
    have W6 := W.mono (hb.tr F6'.keep)
    have fin : ∀ j' k' (s8 : Shared), nx one two j k = (j', k') → Ks h6 s8.heap → Fs s₀ env [("j", vi (j' : Int)), ("k", vi (k' : Int)), ("road", vr R), ("table", vr Ta), ("one", vs (S one)), ("two", vs (S two))] s8 →
        wpAny (model prog w) A (execs (rdB.drop 2) env) (fun f s₃ => f = .next ∧ ∃ m, m < (one.length - j) + (two.length - k) ∧ ∃ j k acc rs, m = (one.length - j) + (two.length - k) ∧ Rd one two j k acc ∧ RS s₀ env one two R Ta rs ts j k acc s₃) E' s8 := by
      intro j' k' s8 en ks8 F8
      rw [en] at n1 n2 n3
      simp only at n1 n2 n3
      have hstep := Rd.step hrd hor
      rw [en] at hstep
      simp only at hstep
      refine road_tail he fe hl1 hl2 n1 n2 (by simp at hacc; omega) ⟨r6.ks zok_plainL ks8, t6'.ks zok_isList ks8, X.ne, F8⟩ fun s9 rs9 X9 => ?_
      exact ⟨rfl, _, by omega, j', k', _, rs9, rfl, hstep, X9⟩
    obtain ⟨b1, b2⟩ := tb_at (one := one) (two := two) hj hk
    refine ex_assign (base := h6) fe Kp.rf F6' (kdl he (.inl rfl)) rfl (flat_vi _).sq (PE.at2 (PE.known (PE.name ok rfl rfl) (t6'.vl zok_isList)) (PE.name ok rfl rfl) (PE.name ok rfl rfl) b1 b2 (by omega) (by omega) (by intro _ _; rfl) (by intro _ _; rfl)) ?_
    intro h7 t7 k7 F7
    have t7' := t6'.ks zok_isList k7.ks
    have W7 := W.mono (hb.tr F7.keep)
    obtain ⟨fp, hfp⟩ := W7.fprice
    have T : ∀ p (G : List (Str × VP)), G.lookup ("table" : Str) = some (vr Ta) → PE prog w h7 A env G (.Name "table" p) (vl ((vrows (tb one two one.length 0)).map vl)) := fun p G hg => PE.known (PE.name ok hg rfl) (t7'.vl zok_isList)
    refine ex_if (base := h7) (b := decide (j < one.length ∧ k < two.length ∧ tt one two j k = sc (one.getD j 0) (two.getD k 0) + tt one two (j + 1) (k + 1))) fe Kp.rf F7 ?_ ?_ ?_
    · refine PT.congr (PT.and (c := decide (k < two.length ∧ tt one two j k = sc (one.getD j 0) (two.getD k 0) + tt one two (j + 1) (k + 1))) (PT.cmp (PE.name ok rfl rfl) (PE.len_s he ok W7.B W7.nlen (by omega) rfl (PE.name ok rfl rfl) rfl) oc_lt rfl) fun q1 =>
        PT.congr (PT.and (c := decide (tt one two j k = sc (one.getD j 0) (two.getD k 0) + tt one two (j + 1) (k + 1))) (PT.cmp (PE.name ok rfl rfl) (PE.len_s he ok W7.B W7.nlen (by omega) rfl (PE.name ok rfl rfl) rfl) oc_lt rfl) fun q2 => ?_) ?_) ?_
      · have c1 : j < one.length := by have := of_decide_eq_true q1; omega
        have c2 : k < two.length := by have := of_decide_eq_true q2; omega
        have g1 : one[j]? = some (one.getD j 0) := by simp [List.getD, c1]
        have g2 : two[k]? = some (two.getD k 0) := by simp [List.getD, c2]
        obtain ⟨d1, d2⟩ := tb_at (one := one) (two := two) (j := j + 1) (k := k + 1) (by omega) (by omega)
        refine PT.congr (PT.and (c := true) (PT.cmp (PE.name ok rfl rfl) (PE.bin (PE.callD he ok W7.B hfp rfl rfl (PA.cons (PE.sgn (PE.name ok rfl rfl) (PE.name ok rfl rfl) g1 (by omega) (by intro _ _; rfl)) (PA.cons (PE.sgn (PE.name ok rfl rfl) (PE.name ok rfl rfl) g2 (by omega) (by intro _ _; rfl)) PA.nil rfl) rfl) rfl
            (c_price W7 (hA.mono (by decide)) hfp (h1 _ (List.mem_of_getElem? g1)) (h2 _ (List.mem_of_getElem? g2))))
          (PE.at2 (j := j + 1) (k := k + 1) (T _ _ rfl) (PE.bin (PE.name ok rfl rfl) PE.cint ob_add) (PE.bin (PE.name ok rfl rfl) PE.cint ob_add) d1 d2 (by omega) (by omega) (by intro _ _; rfl) (by intro _ _; rfl)) ob_add) oc_eq rfl) fun _ => PT.and_nil) ?_
        rw [Bool.and_true, Bool.eq_iff_iff, beq_iff_eq, decide_eq_true_iff]
      · by_cases c2 : k < two.length <;> simp [c2]
      · by_cases c1 : j < one.length <;> simp [c1]
    · intro hc7 h8 t8 k8 F8
      have q := of_decide_eq_true hc7
      refine ex_swap2 (base := h8) (P1 := vi ((j + 1 : Nat) : Int)) (P2 := vi ((k + 1 : Nat) : Int)) hA.h fe Kp.rf F8 (kdl he (.inl rfl)) (kdl he (.inl rfl)) (flat_vi _).sq (flat_vi _).sq ?_ (PE.tup (PA.cons (PE.bin (PE.name ok rfl rfl) PE.cint ob_add) (PA.cons (PE.bin (PE.name ok rfl rfl) PE.cint ob_add) PA.nil rfl) rfl) (by show 2 ≤ _; decide)) ?_
      · cases env; dsimp only at he; subst he; rfl
      intro h9 t9 k9 F9
      exact ex_nil (fin (j + 1) (k + 1) _ (if_pos q) (k7.ks.tr (k8.ks.tr k9.ks)) (F9.sl ⟨rfl, rfl, rfl, rfl, rfl, rfl, trivial⟩))
    · intro hc7 h8 t8 k8 F8
      have q := of_decide_eq_false hc7
      have t8' := t7'.ks zok_isList k8.ks
      have W8 := W.mono (hb.tr F8.keep)
      have T8 : ∀ p (G : List (Str × VP)), G.lookup ("table" : Str) = some (vr Ta) → PE prog w h8 A env G (.Name "table" p) (vl ((vrows (tb one two one.length 0)).map vl)) := fun p G hg => PE.known (PE.name ok hg rfl) (t8'.vl zok_isList)
      refine ex_if (base := h8) (b := decide (j < one.length ∧ tt one two j k = 2 + tt one two (j + 1) k)) fe Kp.rf F8 ?_ ?_ ?_
      · refine PT.congr (PT.and (c := decide (tt one two j k = 2 + tt one two (j + 1) k)) (PT.cmp (PE.name ok rfl rfl) (PE.len_s he ok W8.B W8.nlen (by omega) rfl (PE.name ok rfl rfl) rfl) oc_lt rfl) fun q1 => ?_) ?_
        · have c1 : j < one.length := by have := of_decide_eq_true q1; omega
          obtain ⟨d1, d2⟩ := tb_at (one := one) (two := two) (j := j + 1) (k := k) (by omega) hk
          refine PT.congr (PT.and (c := true) (PT.cmp (PE.name ok rfl rfl) (PE.bin PE.cint (PE.at2 (j := j + 1) (k := k) (T8 _ _ rfl) (PE.bin (PE.name ok rfl rfl) PE.cint ob_add) (PE.name ok rfl rfl) d1 d2 (by omega) (by omega) (by intro _ _; rfl) (by intro _ _; rfl)) ob_add) oc_eq rfl) fun _ => PT.and_nil) ?_
          rw [Bool.and_true, Bool.eq_iff_iff, beq_iff_eq, decide_eq_true_iff]
        · by_cases c1 : j < one.length <;> simp [c1]
      · intro hc8 h9 t9 k9 F9
        have q' := of_decide_eq_true hc8
        refine ex_assign (base := h9) (P := vi ((j + 1 : Nat) : Int)) fe Kp.rf F9 (kdl he (.inl rfl)) rfl (flat_vi _).sq (PE.bin (PE.name ok rfl rfl) PE.cint ob_add) ?_
        intro h10 t10 k10 F10
        exact ex_nil (ex_nil (fin (j + 1) k _ ((if_neg q).trans (if_pos q')) (k7.ks.tr (k8.ks.tr (k9.ks.tr k10.ks))) (F10.sl ⟨rfl, rfl, rfl, rfl, rfl, rfl, trivial⟩)))
      · intro hc8 h9 t9 k9 F9
        have q' := of_decide_eq_false hc8
        refine ex_assign (base := h9) (P := vi ((k + 1 : Nat) : Int)) fe Kp.rf F9 (kdl he (.inl rfl)) rfl (flat_vi _).sq (PE.bin (PE.name ok rfl rfl) PE.cint ob_add) ?_
        intro h10 t10 k10 F10
        exact ex_nil (ex_nil (fin j (k + 1) _ ((if_neg q).trans (if_neg q')) (k7.ks.tr (k8.ks.tr (k9.ks.tr k10.ks))) (F10.sl ⟨rfl, rfl, rfl, rfl, rfl, rfl, trivial⟩)))
  · intro hc h6 t6 k6 F6'
    have hor := of_decide_eq_false hc
    have e1 : j = one.length := by omega
    have e2 : k = two.length := by omega
    subst e1 e2
    refine ex_ret (base := base) fe (hb.tr F6'.keep) F6' (PE.name ok rfl rfl) fun v h7 t7 k7 p => F6'.ret k7 ?_
    have : v = .ref R := p
    subst this
    exact ⟨_, hrd, (X.r.ks zok_plainL (k6.ks.tr k7.ks)).vl zok_plainL⟩

theorem c_road (W : W1 mg mb base) (hA : OkA A 987) {f : Addr} (hf : FnAt mg base "_law_road" (fargs 9) (fbody 9) (fscope 9) f) {one two : List Nat}
    (h1 : ∀ c ∈ one, c ∈ sg) (h2 : ∀ c ∈ two, c ∈ sg) (hl1 : one.length ≤ 40) (hl2 : two.length ≤ 40) : Does prog w base A (.ref f) [vs (S one), vs (S two)] (vRoad one two) := by
  refine does_def ["one", "two"] W.B hf (hA.room (by decide)) ?_ rfl (by decide) (by decide) (sq_flat2 (flat_vs _) (flat_vs _)) ?_
  · intro pm code doc us h
    rcases us with _ | ⟨x, _ | ⟨y, _ | ⟨z, us⟩⟩⟩ <;> simp at h
    rfl
  intro s₀ s env E he fe hb0 F
  exact road_body W (hA.deeper env) he fe h1 h2 hl1 hl2 hb0 F
end
end Mine
namespace Mine
open PySem PyProof.Rows PySem.Calls

section
variable {prog : Program} {w : World} {base : Heap} {A : Around} {mg mb : Str → Option Value} {E : Value → Shared → Prop} {s₀ s : Shared} {env : Env} {G : List (Str × VP)}

theorem c_right (W : W1 mg mb base) (hA : OkA A 987) {f : Addr} (hf : FnAt mg base "_law_right" (fargs 10) (fbody 10) (fscope 10) f) {a b : List Nat} {c : Int}
    (ha : ∀ c ∈ a, c < 128) (hbs : ∀ c ∈ b, c < 128) (hal : a.length ≤ 40) (hbl : b.length ≤ 40) (l1 : lev a b 99 = c) (l2 : lev b a (c - 1) = c) (l3 : 0 < lev a b 0 ↔ a ≠ b) :
    Does prog w base A (.ref f) [vs (S a), vs (S b), vi c] (vb true) := by
  refine does_def ["one", "two", "cost"] W.B hf (hA.room (by decide)) ?_ rfl (by decide) (by decide) (sq_flat3 (flat_vs _) (flat_vs _) (flat_vi _)) ?_
  · intro pm code doc us h
    rcases us with _ | ⟨x, _ | ⟨y, _ | ⟨z, _ | ⟨u, us⟩⟩⟩⟩ <;> simp at h
    rfl
  intro s₀ s env E he fe hb F
  have ok := fe.toEnvOk
  obtain ⟨fl, hfl⟩ := W.flev
  have hA' := hA.deeper env
  refine ex_if1 (base := base) fe (hb.tr F.keep) F (PT.or (PT.cmp (PE.callD he ok W.B hfl rfl rfl (PA.cons (PE.name ok rfl rfl) (PA.cons (PE.name ok rfl rfl) (PA.cons PE.cint PA.nil rfl) rfl) rfl) rfl (c_lev W.toW0 hA' hfl ha hbs hal hbl)) (PE.name ok rfl rfl) oc_ne rfl) fun _ =>
    PT.or (PT.cmp (PE.callD he ok W.B hfl rfl rfl (PA.cons (PE.name ok rfl rfl) (PA.cons (PE.name ok rfl rfl) (PA.cons (PE.bin (PE.name ok rfl rfl) PE.cint ob_sub) PA.nil rfl) rfl) rfl) rfl (c_lev W.toW0 hA' hfl hbs ha hbl hal)) (PE.name ok rfl rfl) oc_ne rfl) fun _ => PT.or_nil) ?_ ?_
  · intro hc
    rw [l1, l2] at hc
    simp at hc
  intro hc h1 t1 k1 F1
  refine ex_ret (base := base) fe (hb.tr F1.keep) F1 (PE.cmp (PE.cmp (PE.callD he ok W.B hfl rfl rfl (PA.cons (PE.name ok rfl rfl) (PA.cons (PE.name ok rfl rfl) (PA.cons PE.cint PA.nil rfl) rfl) rfl) rfl (c_lev W.toW0 hA' hfl ha hbs hal hbl)) PE.cint oc_gt rfl)
    (PE.cmp (PE.name ok rfl rfl) (PE.name ok rfl rfl) oc_nes rfl) oc_eqb rfl) fun v h2 t2 k2 p => F1.ret k2 ?_
  have e : (decide (0 < lev a b 0) == (a != b)) = true := by
    by_cases h : a = b
    · have : ¬ 0 < lev a b 0 := fun q => l3.mp q h
      simp [h, this] 
      simpa [h] using this
    · simp [h, l3.mpr h]
  rw [e] at p
  exact p
end
end Mine
namespace Mine
open PySem PyProof.Rows PySem.Calls

def figs (ns : List Int) : List Int := (ns.take 6).map fun x => x.fmod 4
def cutI (ns : List Int) : Int := (((figs ns).length : Int) + (figs ns).sum.fmod 3 + 1).fdiv 2
def cutN (ns : List Int) : Nat := (cutI ns).toNat
def sgn (x : Int) : Nat := sg.getD x.toNat 0
def w1 (ns : List Int) : List Nat := if figs ns = [] then [97, 66, 97] else ((figs ns).take (cutN ns)).map sgn
def w2 (ns : List Int) : List Nat := if figs ns = [] then [98, 65] else ((figs ns).drop (cutN ns)).map sgn

theorem figs_mem {ns : List Int} : ∀ x ∈ figs ns, 0 ≤ x ∧ x < 4 := by
  intro x hx
  obtain ⟨y, _, rfl⟩ := List.mem_map.mp hx
  exact ⟨Int.fmod_nonneg_of_pos y (by decide), Int.fmod_lt_of_pos y (by decide)⟩
theorem figs_len (ns : List Int) : (figs ns).length ≤ 6 := by simp [figs]; omega
theorem cutI_nonneg (ns : List Int) : 0 ≤ cutI ns := by
  unfold cutI
  have := Int.fmod_nonneg_of_pos (figs ns).sum (b := 3) (by decide)
  rw [Int.fdiv_eq_ediv_of_nonneg _ (by decide)]
  omega
theorem cutI_cast (ns : List Int) : ((cutN ns : Nat) : Int) = cutI ns := by unfold cutN; have := cutI_nonneg ns; omega
theorem sgn_mem {x : Int} (h : 0 ≤ x ∧ x < 4) : sgn x ∈ sg := by
  have : x = 0 ∨ x = 1 ∨ x = 2 ∨ x = 3 := by omega
  rcases this with rfl | rfl | rfl | rfl <;> decide
theorem sgn_get {x : Int} (h : 0 ≤ x ∧ x < 4) : (seqIndex? x sg.length).bind (sg[·]?) = some (sgn x) := by
  have : x = 0 ∨ x = 1 ∨ x = 2 ∨ x = 3 := by omega
  rcases this with rfl | rfl | rfl | rfl <;> rfl

theorem cutL_to {α : Type} (l : List α) (k : Nat) : cutL l none (some (k : Int)) = l.take k := by
  have e : clipN l.length (some (k : Int)) l.length = min k l.length := by unfold clipN; simp only; rw [if_neg (by omega)]; omega
  unfold cutL
  rw [e]
  simp only [clipN, List.drop_zero, Nat.sub_zero]
  rcases Nat.le_total k l.length with h | h
  · rw [Nat.min_eq_left h]
  · rw [Nat.min_eq_right h, List.take_of_length_le (Nat.le_refl _), List.take_of_length_le h]
theorem cutL_from {α : Type} (l : List α) (k : Nat) : cutL l (some (k : Int)) none = l.drop k := by
  have e : clipN l.length (some (k : Int)) 0 = min k l.length := by unfold clipN; simp only; rw [if_neg (by omega)]; omega
  unfold cutL
  rw [e]
  simp only [clipN]
  rcases Nat.le_total k l.length with h | h
  · rw [Nat.min_eq_left h, List.take_of_length_le (by simp)]
  · rw [Nat.min_eq_right h, List.drop_eq_nil_of_le (Nat.le_refl _), List.drop_eq_nil_of_le h]; simp

theorem rsizeF {j n : Nat} (h : j ≤ n) : Builtin.Range.rangeSize (j : Int) (n : Int) 1 = ((n - j : Nat) : Nat) := by
  unfold Builtin.Range.rangeSize
  simp
  omega
theorem smallF {j n : Nat} (h : j ≤ n) (hn : n ≤ 1000000) : Builtin.Range.small (j : Int) (n : Int) 1 = true := by
  unfold Builtin.Range.small
  rw [rsizeF h]
  simp [Builtin.Range.rangeFitsLong]
  omega
theorem rgiF_get {j n i : Nat} {R : VP} (h : ((rgi (j : Int) 1 n).map vi)[i]? = some R) : i < n ∧ R = vi ((j + i : Nat) : Int) := by
  have hl := (List.getElem?_eq_some_iff.mp h).1
  simp [rgi] at hl
  simp [rgi, hl] at h
  refine ⟨hl, ?_⟩
  rw [← h]; congr 1

theorem sq_vls {rows : List (List VP)} (h : ∀ Ps ∈ rows, ∀ P ∈ Ps, Flat P) : Sq (vl (rows.map vl)) := by
  refine sq_vl fun P hP => ?_
  obtain ⟨Ps, hPs, rfl⟩ := List.mem_map.mp hP
  exact sq_vl fun Q hQ => (h Ps hPs Q hQ).sq
theorem sq_vRoad (one two : List Nat) : Sq (vRoad one two) := fun h h' v k ⟨acc, r, x⟩ => ⟨acc, r, sq_vls (vroad_flat acc) h h' v k x⟩
theorem Rd.words {one two : List Nat} {P : Nat → Prop} (h1 : ∀ c ∈ one, P c) (h2 : ∀ c ∈ two, P c) {j k : Nat} {acc : List (List Nat × Int)} (h : Rd one two j k acc) : ∀ p ∈ acc, (∀ c ∈ p.1, P c) ∧ p.1.length ≤ one.length + two.length := by
  induction h with
  | start => intro p hp; simp at hp; subst hp; exact ⟨h1, by simp⟩
  | @step j k a wl c h hjk ih =>
    intro p hp
    split at hp
    · exact ih p hp
    · rcases List.mem_append.mp hp with hp | hp
      · exact ih p hp
      · simp at hp; subst hp
        refine ⟨wd_mem h1 h2, ?_⟩
        simp [wd]; omega

/-- what the plain law has to say -/
def PL (one two : List Nat) : Prop := ∀ acc, Rd one two one.length two.length acc → ∀ (i j : Nat) p q, i ≤ j → acc[i]? = some p → acc[j]? = some q →
  lev p.1 q.1 99 = q.2 - p.2 ∧ lev q.1 p.1 (q.2 - p.2 - 1) = q.2 - p.2 ∧ (0 < lev p.1 q.1 0 ↔ p.1 ≠ q.1)

section
variable {prog : Program} {w : World} {base : Heap} {A : Around} {mg mb : Str → Option Value} {E : Value → Shared → Prop} {s₀ s : Shared} {env : Env} {G : List (Str × VP)}

theorem PE.lenl {p pos : Pos} {e : Expr} {Ps : List VP} (ok : EnvOk env) (B : Base mg mb base) (hg : mg "len" = none) (hz : Ps.length < 2 ^ 62)
    (hx : env.kindOf ("len" : Str) = some .globalImplicit) (h : PE prog w base A env G e (vl Ps)) (hs : starEach [e] env = (false, eval e env) :: starEach [] env) :
    PE prog w base A env G (.Call (.Name "len" p) [e] [] pos) (vi Ps.length) :=
  PE.bc ok B hg rfl hx (by decide) rfl (do_len_l hz) (PA.cons h PA.nil hs) hs

abbrev lawOut : List Stmt := forBody (fbody 11)[5]?
abbrev lawIn : List Stmt := forBody lawOut[0]?

theorem law_in (W : W1 mg mb base) (hA : OkA A 987) (he : env.scope = fscope 11) (fe : FEnv env) {one two : List Nat} {acc : List (List Nat × Int)} {j : Nat} {Q : Flow → Shared → Prop}
    (h1 : ∀ c ∈ one, c ∈ sg) (h2 : ∀ c ∈ two, c ∈ sg) (hl1 : one.length ≤ 20) (hl2 : two.length ≤ 20) (hb : Kp base s₀.heap) (hPL : PL one two) (hrd : Rd one two one.length two.length acc) (hj : j < acc.length)
    (F : Fs s₀ env [("j", vi (j : Int)), ("road", vl ((vroad acc).map vl))] s)
    (k : ∀ s', Fs s₀ env [("road", vl ((vroad acc).map vl))] s' → KX (fa env) s.heap s'.heap → Q .next s') :
    wpAny (model prog w) A (execs lawOut env) Q E s := by
  have ok := fe.toEnvOk
  obtain ⟨hal, _, _⟩ := hrd.len
  have hlen : ((vroad acc).map vl).length = acc.length := by simp [vroad]
  have hwd := hrd.words h1 h2
  refine ex_for (base := base) fe (hb.tr F.keep) F (fa env) ((rgi (j : Int) 1 (acc.length - j)).map vi)
    (PE.tcall he ok W.B W.nrange rfl rfl (by decide) rfl do_range2 (PA.cons (PE.name ok rfl rfl) (PA.cons (PE.lenl ok W.B W.nlen (by rw [hlen]; omega) (kd he rfl) (PE.name ok rfl rfl) rfl) PA.nil rfl) rfl) rfl)
    (fun h' v _ hv => by rw [hlen] at hv; exact it_range hA.h hv (smallF (by omega) (by omega)) (rsizeF (by omega))) (flat_vis _) (fun b hb => let ⟨o, e, _⟩ := F.fa_some b hb; ⟨o, e⟩) (fun b hb => F.fa_fresh b hb)
    (fun i s' => i ≤ acc.length - j ∧ Fs s₀ env [("j", vi (j : Int)), ("road", vl ((vroad acc).map vl))] s')
    ?_ ?_ ?_ ?_ (by intro x; rfl)
  · intro h' tk kp F'
    exact ⟨Nat.zero_le _, F'⟩
  · rintro i s' h' tk ⟨hi, F'⟩ kn k0
    exact ⟨hi, F'.kn kn k0⟩
  · rintro i Rv s' v E' hR hRv ⟨hi, F'⟩ kx hsame
    obtain ⟨hlt, rfl⟩ := rgiF_get hR
    have hq : j + i < acc.length := by omega
    refine store_ fe F' (kdl he (.inl rfl)) hRv (flat_vi _).sq fun h1' t1 k1 F1 => ?_
    have g1 : acc[j]? = some acc[j] := List.getElem?_eq_getElem hj
    have g2 : acc[j + i]? = some acc[j + i] := List.getElem?_eq_getElem hq
    obtain ⟨p1, p2, p3⟩ := hPL acc hrd j (j + i) _ _ (by omega) g1 g2
    obtain ⟨m1, n1⟩ := hwd _ (List.mem_of_getElem? g1)
    obtain ⟨m2, n2⟩ := hwd _ (List.mem_of_getElem? g2)
    obtain ⟨f, hf⟩ := W.fright
    have row : ∀ (n : Nat) (hn : n < acc.length), ((vroad acc).map vl)[((n : Nat) : Int).toNat]? = some (vl [vs (S acc[n].1), vi acc[n].2]) := by
      intro n hn
      rw [Int.toNat_natCast]
      simp [vroad, hn]
    refine ex_if1 (base := base) fe (hb.tr F1.keep) F1 (PT.not (PT.plain (PE.callD he ok W.B hf rfl rfl (PA.cons
        (PE.item_l (Ps := [vs (S acc[j].1), vi acc[j].2]) (PE.item_l (PE.name ok rfl rfl) (PE.name ok rfl rfl) (by omega) (by omega) (row j hj) (by intro _ _; rfl)) PE.cint (by decide) (by decide) rfl (by intro _ _; rfl)) (PA.cons
        (PE.item_l (Ps := [vs (S acc[j + i].1), vi acc[j + i].2]) (PE.item_l (PE.name ok rfl rfl) (PE.name ok rfl rfl) (by omega) (by omega) (row (j + i) hq) (by intro _ _; rfl)) PE.cint (by decide) (by decide) rfl (by intro _ _; rfl)) (PA.cons
        (PE.bin (PE.item_l (Ps := [vs (S acc[j + i].1), vi acc[j + i].2]) (PE.item_l (PE.name ok rfl rfl) (PE.name ok rfl rfl) (by omega) (by omega) (row (j + i) hq) (by intro _ _; rfl)) PE.cint (by decide) (by decide) rfl (by intro _ _; rfl))
          (PE.item_l (Ps := [vs (S acc[j].1), vi acc[j].2]) (PE.item_l (PE.name ok rfl rfl) (PE.name ok rfl rfl) (by omega) (by omega) (row j hj) (by intro _ _; rfl)) PE.cint (by decide) (by decide) rfl (by intro _ _; rfl)) ob_sub) PA.nil rfl) rfl) rfl) rfl
        (c_right W hA hf (fun c hc => sg_lt c (m1 c hc)) (fun c hc => sg_lt c (m2 c hc)) (by omega) (by omega) p1 p2 p3)) tr_b rfl)) ?_ ?_
    · intro h; cases h
    · intro _ h2' t2 k2 F2
      exact ex_nil ⟨⟨by omega, F2.sl ⟨rfl, rfl, trivial⟩⟩, k1.kx.tr k2.kx, F2.same⟩
  · rintro s' ⟨hi, F'⟩ kx hsame
    exact ex_nil (k s' (F'.sl ⟨rfl, trivial⟩) kx)
end
end Mine
namespace Mine
open PySem PyProof.Rows PySem.Calls

def sgV : List VP := sg.map fun c => vs (S [c])
theorem sgV_flat : ∀ P ∈ sgV, Flat P := by
  intro P hP
  obtain ⟨c, _, rfl⟩ := List.mem_map.mp hP
  exact flat_vs _
theorem sgV_get {i : Nat} {R : VP} (h : sgV[i]? = some R) : ∃ c, sg[i]? = some c ∧ c ∈ sg ∧ R = vs (S [c]) := by
  unfold sgV at h
  rw [List.getElem?_map] at h
  obtain ⟨c, hc, rfl⟩ := Option.map_eq_some_iff.mp h
  exact ⟨c, hc, List.mem_of_getElem? hc, rfl⟩

section
variable {prog : Program} {w : World} {base : Heap} {A : Around} {mg mb : Str → Option Value} {E : Value → Shared → Prop} {s₀ s : Shared} {env : Env} {G : List (Str × VP)}

/-- [f(x, y) for y in signs], f a def of the text -/
theorem pe_row (W : W1 mg mb base) (hA : OkA A 987) {name : Str} {fa' : Arguments} {body : List Stmt} {sc' : Scope} {f : Addr} {c : Nat} {a : Addr} {scope : Scope} {p1 p2 p3 p4 p5 p6 pos : Pos}
    (hce : CE env) (hc : c ∈ sg) (hl : (vl sgV).p base (.ref a)) (hf : FnAt mg base name fa' body sc' f) (hd : ∀ base', Kp base base' → ∀ x ∈ sg, ∀ y ∈ sg, Does prog w base' A (.ref f) [vs (S [x]), vs (S [y])] (vi (sc x y)))
    (hsc : ScOk scope) (hname : scope.names.lookup name = some .globalImplicit) (hdbg : (name == ("__debug__" : Str)) = false) (hy : scope.names.lookup ("y" : Str) = some .local) (hxs : scope.names.lookup ("x" : Str) = some .free)
    (hfr : (scope.names.filterMap fun p => if p.2 == .free then some p.1 else none) = [("x" : Str)]) (hkx : env.kindOf ("x" : Str) ≠ some .local)
    (hG1 : G.lookup ("x" : Str) = some (vs (S [c]))) (hG2 : G.lookup ("signs" : Str) = some (vr a)) :
    PE prog w base A env G (.ListComp (.Call (.Name name p1) [.Name "x" p2, .Name "y" p3] [] p4) [⟨.Name "y" p5, .Name "signs" p6, [], 0⟩] scope pos) (vl ((sg.map fun y => sc c y).map vi)) := by
  have ok := hce.toEnvOk
  refine ((PC.comp1 sgV ((sg.map fun y => sc c y).map fun z => [vi z]) hce hsc (PE.known (PE.name ok hG2 rfl) hl) (fun h v hv => it_vl hA.h hv) sgV_flat (fun _ => [("x", vs (S [c]))]) (fun h₁ _ => gf_same (by
    intro p hp
    simp only [List.mem_cons, List.not_mem_nil, or_false] at hp
    subst hp
    exact ⟨flat_vs _, hxs, hG1⟩) h₁) (free_of ["x"] hfr (by
      intro y hy'
      simp only [List.mem_cons, List.not_mem_nil, or_false] at hy'
      subst hy'
      exact ⟨hkx, _, hG1⟩)) (.inl hy) (by simp [sgV]) ?_ ?_ ?_).pe (sq_vlp ?_)).weaken ?_
  · intro o ho P hP
    obtain ⟨z, _, rfl⟩ := List.mem_map.mp ho
    simp at hP; subst hP; exact flat_vi _
  · simp [sg, sizeLine]
  · intro b1 cenv b2 i R out kb1 hce2 hkn kb2 hR hout
    obtain ⟨y, hyg, hym, rfl⟩ := sgV_get hR
    have ok2 := hce2.toEnvOk
    have kb := kb1.tr kb2
    have W2 := W.mono kb
    have e : out = [vi (sc c y)] := by
      rw [List.getElem?_map, List.getElem?_map, hyg] at hout
      simpa using hout.symm
    subst e
    exact ⟨true, rfl, fun _ => ⟨_, rfl, PE.dc ok2 W2.B (hf.mono kb) (hkn.g hname) hdbg (PA.cons (PE.name ok2 rfl rfl) (PA.cons (PE.name ok2 rfl rfl) PA.nil rfl) rfl) rfl (hd _ kb c hc y hym)⟩, fun h => nomatch h⟩
  · intro P hP
    obtain ⟨o, ho, hPo⟩ := List.mem_flatten.mp hP
    obtain ⟨z, _, rfl⟩ := List.mem_map.mp ho
    simp at hPo; subst hPo; exact (flat_vi _).sq
  · intro hp v x
    have e : ((sg.map fun y => sc c y).map fun z => [vi z]).flatten = (sg.map fun y => sc c y).map vi := by simp [sg]
    rw [e] at x
    exact vlp_vl x

theorem law_rest (W : W1 mg mb base) (hA : OkA A 987) (hu : A.units < cLine) (he : env.scope = fscope 11) (fe : FEnv env) {one two : List Nat}
    (h1 : ∀ c ∈ one, c ∈ sg) (h2 : ∀ c ∈ two, c ∈ sg) (hl1 : one.length ≤ 20) (hl2 : two.length ≤ 20) (hb : Kp base s₀.heap) (hPL : PL one two)
    (F : Fs s₀ env [("one", vs (S one)), ("two", vs (S two))] s) :
    wpAny (model prog w) A (execs ((fbody 11).drop 4) env) (Ret s₀ (vb true)) E s := by
  have ok := fe.toEnvOk
  have Ws := W.mono (hb.tr F.keep)
  obtain ⟨f, hf⟩ := Ws.froad
  refine ex_assign (base := s.heap) fe Kp.rf F (kdl he (.inl rfl)) rfl (sq_vRoad one two)
    (PE.callD he ok Ws.B hf rfl rfl (PA.cons (PE.name ok rfl rfl) (PA.cons (PE.name ok rfl rfl) PA.nil rfl) rfl) rfl (c_road Ws hA hf h1 h2 (by omega) (by omega))) ?_
  intro h3 t3 k3 F3
  obtain ⟨vT, ⟨acc, hrd, hacc⟩, hnT⟩ := F3.named (x := "road") rfl
  have F4 := (hnT _ (sq_vls (vroad_flat acc)) hacc).sl (G' := [("road", vl ((vroad acc).map vl))]) ⟨rfl, trivial⟩
  obtain ⟨hal, _, _⟩ := hrd.len
  have hlen : ((vroad acc).map vl).length = acc.length := by simp [vroad]
  refine ex_for (base := base) fe (hb.tr F4.keep) F4 (fa env) ((rgi 0 1 acc.length).map vi)
    (PE.tcall he ok W.B W.nrange rfl rfl (by decide) rfl do_range1 (PA.cons (PE.lenl ok W.B W.nlen (by rw [hlen]; omega) (kd he rfl) (PE.name ok rfl rfl) rfl) PA.nil rfl) rfl)
    (fun h' v _ hv => by rw [hlen] at hv; exact it_range hA.h hv (small01 (by omega)) (rsize01 _)) (flat_vis _) (fun b hb => let ⟨o, e, _⟩ := F4.fa_some b hb; ⟨o, e⟩) (fun b hb => F4.fa_fresh b hb)
    (fun i s' => i ≤ acc.length ∧ Fs s₀ env [("road", vl ((vroad acc).map vl))] s')
    ?_ ?_ ?_ ?_ (by intro x; rfl)
  · intro h' tk kp F'
    exact ⟨Nat.zero_le _, F'⟩
  · rintro i s' h' tk ⟨hi, F'⟩ kn k0
    exact ⟨hi, F'.kn kn k0⟩
  · rintro i Rv s' v E' hR hRv ⟨hi, F'⟩ kx hsame
    obtain ⟨hlt, rfl⟩ := rgi01_get hR
    refine store_ fe F' (kdl he (.inl rfl)) hRv (flat_vi _).sq fun h1' t1 k1 F1 => ?_
    exact law_in W hA he fe h1 h2 hl1 hl2 hb hPL hrd hlt F1 fun s5 F5 kx5 => ⟨⟨hlt, F5⟩, k1.kx.tr kx5, F5.same⟩
  · rintro s' ⟨hi, F'⟩ kx hsame
    refine ex_assign (base := base) (P := vl sgV) fe (hb.tr F'.keep) F' (kdl he (.inr rfl)) rfl (sq_vl fun P hP => (sgV_flat P hP).sq)
      (PE.list (PA.cons (PE.cstr.congr s_a) (PA.cons (PE.cstr.congr s_A) (PA.cons (PE.cstr.congr s_b) (PA.cons (PE.cstr.congr s_B) PA.nil rfl) rfl) rfl) rfl) (by show 4 ≤ _; decide)) ?_
    intro h5 t5 k5 F5
    obtain ⟨vS, hS, hnS⟩ := F5.named (x := "signs") rfl
    obtain ⟨a, us, rfl, hus⟩ := id hS
    have F6 := (hnS (vr a) (flat_vr _).sq rfl).sl (G' := [("signs", vr a)]) ⟨rfl, trivial⟩
    have W5 := W.mono (hb.tr F6.keep)
    obtain ⟨fs, hfs⟩ := W5.fsub
    obtain ⟨fp, hfp⟩ := W5.fprice
    refine ex_ret (base := h5) fe Kp.rf F6 (PE.cmp ((PC.comp1 sgV (sg.map fun _ => []) (F6.ce fe) ⟨by decide, rfl, by decide, by decide⟩ (PE.known (PE.name ok rfl rfl) hS) (fun h v hv => it_vl hA.h hv) sgV_flat (fun _ => [("signs", vr a)]) (fun h₁ _ => gf_same (by
        intro p hp
        simp only [List.mem_cons, List.not_mem_nil, or_false] at hp
        subst hp
        exact ⟨flat_vr _, rfl, rfl⟩) h₁) (free_of ["signs"] (by decide) (by
          intro y hy'
          simp only [List.mem_cons, List.not_mem_nil, or_false] at hy'
          subst hy'
          exact ⟨ne_local (kd he rfl : env.kindOf _ = some .cell) (by decide), _, rfl⟩)) (.inr rfl) (by simp [sgV]) ?_ (by rw [show (sg.map fun _ => ([] : List VP)).flatten = [] by simp [sg]]; exact Nat.zero_le _) ?_).pe ?_ |>.weaken ?_) (PE.list PA.nil (by show 0 ≤ _; decide)) (oc_eqnil (Ps := []) hu) rfl) fun v h6 t6 k6 p => F6.ret k6 p
    · intro o ho P hP
      obtain ⟨z, _, rfl⟩ := List.mem_map.mp ho
      cases hP
    · intro b1 cenv b2 i R out kb1 hce2 hkn kb2 hR hout
      obtain ⟨c, hcg, hcm, rfl⟩ := sgV_get hR
      have kb := kb1.tr kb2
      have W2 := W5.mono kb
      have e : out = [] := by
        rw [List.getElem?_map, hcg] at hout
        simpa using hout.symm
      subst e
      refine ⟨false, ?_, (fun h => nomatch h), fun _ => rfl⟩
      have hkx : cenv.kindOf ("x" : Str) ≠ some .local := ne_local (hkn.s (k := .cell) rfl (by decide)) (by decide)
      refine PT.congr (PT.cmp (pe_row W2 hA hce2 hcm (VP.up _ _ _ _ kb hS) (hfs.mono kb) (fun base' kb' x hx y hy => c_sub (W2.mono kb').toW0 (hA.mono (by decide)) ((hfs.mono kb).mono kb') (sg_lt x hx) (sg_lt y hy)) ⟨by decide, rfl, by decide, by decide⟩ rfl rfl rfl rfl (by decide) hkx rfl rfl)
        (pe_row W2 hA hce2 hcm (VP.up _ _ _ _ kb hS) (hfp.mono kb) (fun base' kb' x hx y hy => c_price (W2.mono kb') (hA.mono (by decide)) ((hfp.mono kb).mono kb') hx hy) ⟨by decide, rfl, by decide, by decide⟩ rfl rfl rfl rfl (by decide) hkx rfl rfl) (oc_neints hu rfl) rfl) (by simp)
    · refine sq_vlp fun P hP => ?_
      obtain ⟨o, ho, hPo⟩ := List.mem_flatten.mp hP
      obtain ⟨z, _, rfl⟩ := List.mem_map.mp ho
      cases hPo
    · intro hp v x
      have e : (sg.map fun _ => ([] : List VP)).flatten = [] := by simp [sg]
      rw [e] at x
      exact vlp_vl x
where
  s_a : vs (Str.ofString "a") = vs (S [97]) := by rw [show Str.ofString "a" = S [97] by decide +kernel]
  s_A : vs (Str.ofString "A") = vs (S [65]) := by rw [show Str.ofString "A" = S [65] by decide +kernel]
  s_b : vs (Str.ofString "b") = vs (S [98]) := by rw [show Str.ofString "b" = S [98] by decide +kernel]
  s_B : vs (Str.ofString "B") = vs (S [66]) := by rw [show Str.ofString "B" = S [66] by decide +kernel]
end
end Mine
namespace Mine
open PySem PyProof.Rows PySem.Calls

section
variable {prog : Program} {w : World} {base : Heap} {A : Around} {mg mb : Str → Option Value} {E : Value → Shared → Prop} {s₀ s : Shared} {env : Env} {G : List (Str × VP)}

/-- ''.join(['aAbB'[x] for x in figures[..]]) -/
theorem pe_word (hA : OkA A 987) {xs : List Int} {it : Expr} {scope : Scope} {p1 p2 p3 p4 p5 p6 p7 pos : Pos} (ce : CE env) (hx : ∀ x ∈ xs, 0 ≤ x ∧ x < 4) (hl : xs.length ≤ 100) (hi : PE prog w base A env G it (vl (xs.map vi)))
    (hs : ∀ v, foldedSetIterable it env v = pure v) (hsc : ScOk scope) (hnf : ∀ p ∈ scope.names, p.2 ≠ .free) (hxl : scope.names.lookup ("x" : Str) = some .local) (hline : (p2.endLine == pos.line) = true) :
    PE prog w base A env G (.Call (.Attribute (.Constant (.str (Str.ofString "")) 0 p1) "join" p2) [.ListComp (.Subscript (.Constant (.str (Str.ofString "aAbB")) 0 p3) (.Name "x" p4) p5) [⟨.Name "x" p6, it, [], 0⟩] scope p7] [] pos) (vs (S (xs.map sgn))) := by
  have e0 : Str.ofString "" = S [] := by decide +kernel
  rw [e0, aAbB]
  have := PE.join (prog := prog) (w := w) (base := base) (A := A) (env := env) (G := G) (apos := p2) (pos := pos) (o := .Constant (.str (S [])) 0 p1) (e := .ListComp (.Subscript (.Constant (.str (S sg)) 0 p3) (.Name "x" p4) p5) [⟨.Name "x" p6, it, [], 0⟩] scope p7) (ls := xs.map fun x => [sgn x]) PE.cstr ?_ ?_ rfl hline rfl
  · have e : (xs.map fun x => [sgn x]).flatten = xs.map sgn := by
      clear hx hl hi this
      induction xs with
      | nil => rfl
      | cons a l ih => simp [ih]
    rw [e] at this
    exact this
  · refine ((PC.comp1 (xs.map vi) (xs.map fun x => [vs (S [sgn x])]) ce hsc hi (fun h v hv => it_vl hA.h hv) (flat_vis _) (fun _ => []) (fun h₁ _ y P' e => by simp at e) (fun y hy => absurd rfl (hnf _ hy)) (.inl hxl) (by simp) ?_ ?_ ?_ hs).pe (sq_vlp ?_)).weaken ?_
    · intro o ho P hP
      obtain ⟨z, _, rfl⟩ := List.mem_map.mp ho
      simp at hP; subst hP; exact flat_vs _
    · have e : ((xs.map fun x => [vs (S [sgn x])]).flatten).length = xs.length := by
        clear hx hl hi
        induction xs with
        | nil => rfl
        | cons a l ih => simp [ih]
      rw [e]; exact Nat.le_trans hl (by decide)
    · intro b1 cenv b2 i R out kb1 hce2 hkn kb2 hR hout
      rw [List.getElem?_map] at hR hout
      obtain ⟨x, hxg, rfl⟩ := Option.map_eq_some_iff.mp hR
      rw [hxg] at hout
      have e : out = [vs (S [sgn x])] := by simpa using hout.symm
      subst e
      have hxm := hx x (List.mem_of_getElem? hxg)
      exact ⟨true, rfl, fun _ => ⟨_, rfl, PE.item_s (l := sg) PE.cstr (PE.name hce2.toEnvOk rfl rfl) (by omega) (sgn_get hxm) (by intro _ _; rfl)⟩, fun h => nomatch h⟩
    · intro P hP
      obtain ⟨o, ho, hPo⟩ := List.mem_flatten.mp hP
      obtain ⟨z, _, rfl⟩ := List.mem_map.mp ho
      simp at hPo; subst hPo; exact (flat_vs _).sq
    · intro hp v x
      have e : (xs.map fun x => [vs (S [sgn x])]).flatten = (xs.map fun x => [sgn x]).map fun l => vs (S l) := by
        clear hx hl hi x
        induction xs with
        | nil => rfl
        | cons a l ih => simpa using ih
      rw [e] at x
      exact vlp_vl x
  · have e : ((xs.map fun x => [sgn x]).map (·.length)).sum = xs.length := by
      clear hx hl hi
      induction xs with
      | nil => rfl
      | cons a l ih => simp only [List.map_cons, List.sum_cons, ih, List.length_cons, List.length_nil]; omega
    rw [e]; omega

theorem law_body (W : W1 mg mb base) (hA : OkA A 987) (hu : A.units < cLine) (he : env.scope = fscope 11) (fe : FEnv env) {ns : List Int} (hn : ns.length ≤ 63) (hPL : PL (w1 ns) (w2 ns)) (hb : Kp base s₀.heap)
    (F : Fs s₀ env [("script", vl (ns.map vi))] s) :
    wpAny (model prog w) A (execs (fbody 11) env) (Ret s₀ (vb true)) E s := by
  have ok := fe.toEnvOk
  have Ws := W.mono (hb.tr F.keep)
  have hfl := figs_len ns
  refine ex_assignC (base := s.heap) fe Kp.rf F (kd he rfl) (swaps_yes fe (kd he rfl) rfl) (P := vl ((figs ns).map vi)) (sq_vl fun P hP => (flat_vis _ P hP).sq)
    ((PC.comp1 ((ns.take 6).map vi) ((ns.take 6).map fun x => [vi (x.fmod 4)]) (F.ce fe) ⟨by decide, rfl, by decide, by decide⟩
      (P := vl ((ns.take 6).map vi)) ((PE.lsl (Ps := ns.map vi) (hi := some ((6 : Nat) : Int)) (by rw [List.length_map]; exact Nat.le_trans hn (by decide)) (PE.name ok rfl rfl) PO.none (PO.some PE.cint) (by intro _ _; rfl)).congr (by rw [cutL_to, List.map_take]))
      (fun h v hv => it_vl hA.h hv) (flat_vis _) (fun _ => []) (fun h₁ _ y P' e => by simp at e) (fun y hy => by simp at hy) (.inl rfl) (by simp) ?_ ?_ ?_).weaken ?_) ?_
  · intro o ho P hP
    obtain ⟨z, _, rfl⟩ := List.mem_map.mp ho
    simp at hP; subst hP; exact flat_vi _
  · have e : (((ns.take 6).map fun x => [vi (x.fmod 4)]).flatten).length = (ns.take 6).length := by
      generalize ns.take 6 = l
      induction l with
      | nil => rfl
      | cons a l ih => simp [ih]
    rw [e]; exact Nat.le_trans (by simp; omega : _ ≤ 6) (by decide)
  · intro b1 cenv b2 i R out kb1 hce2 hkn kb2 hR hout
    rw [List.getElem?_map] at hR hout
    obtain ⟨x, hxg, rfl⟩ := Option.map_eq_some_iff.mp hR
    rw [hxg] at hout
    have e : out = [vi (x.fmod 4)] := by simpa using hout.symm
    subst e
    exact ⟨true, rfl, fun _ => ⟨_, rfl, PE.bin (PE.name hce2.toEnvOk rfl rfl) PE.cint (ob_mod (by decide))⟩, fun h => nomatch h⟩
  · intro hp v x
    have e : ((ns.take 6).map fun x => [vi (x.fmod 4)]).flatten = (figs ns).map vi := by
      unfold figs
      generalize ns.take 6 = l
      induction l with
      | nil => rfl
      | cons a l ih => simpa using ih
    rw [e] at x
    exact vlp_vl x
  intro h3 t3 k3 F3
  have W3 := W.mono (hb.tr F3.keep)
  refine ex_assign (base := base) (P := vi (cutI ns)) fe (hb.tr F3.keep) F3 (kdl he (.inl rfl)) rfl (flat_vi _).sq
    ((PE.bin (PE.bin (PE.bin (PE.lenl ok W.B W.nlen (by simp; omega) (kd he rfl) (PE.name ok rfl rfl) rfl) (PE.bin (PE.bcall he ok W.B W.nsum rfl rfl (by decide) rfl (do_sum hA.h) (PA.cons (PE.name ok rfl rfl) PA.nil rfl) rfl) PE.cint (ob_mod (by decide))) ob_add) PE.cint ob_add) PE.cint (ob_div (by decide) (PyProof.noPylong_of_log2 (by decide)))).congr (by unfold cutI; simp)) ?_
  intro h4 t4 k4 F4
  have fs : ∀ P ∈ (figs ns).map vi, Sq P := fun P hP => (flat_vis _ P hP).sq
  refine ex_swap2 (base := base) (P1 := vs (S (((figs ns).take (cutN ns)).map sgn))) (P2 := vs (S (((figs ns).drop (cutN ns)).map sgn))) hA.h fe (hb.tr F4.keep) F4 (kdl he (.inl rfl)) (kdl he (.inl rfl)) (flat_vs _).sq (flat_vs _).sq ?_
    (PE.tup (PA.cons (pe_word hA (F4.ce fe) (fun x hx => figs_mem x (List.mem_of_mem_take hx)) (by simp; omega)
        ((PE.lsl (Ps := (figs ns).map vi) (hi := some ((cutN ns : Nat) : Int)) (by rw [List.length_map]; exact Nat.le_trans hfl (by decide)) (PE.name ok rfl rfl) PO.none (PO.some ((PE.name ok rfl rfl).congr (by rw [cutI_cast]))) (by intro _ _; rfl)).congr (by rw [cutL_to, List.map_take])) (by intro _; rfl) ⟨by decide, rfl, by decide, by decide⟩ (by decide) rfl rfl)
      (PA.cons (pe_word hA (F4.ce fe) (fun x hx => figs_mem x (List.mem_of_mem_drop hx)) (by simp; omega)
        ((PE.lsl (Ps := (figs ns).map vi) (lo := some ((cutN ns : Nat) : Int)) (by rw [List.length_map]; exact Nat.le_trans hfl (by decide)) (PE.name ok rfl rfl) (PO.some ((PE.name ok rfl rfl).congr (by rw [cutI_cast]))) PO.none (by intro _ _; rfl)).congr (by rw [cutL_from, List.map_drop])) (by intro _; rfl) ⟨by decide, rfl, by decide, by decide⟩ (by decide) rfl rfl) PA.nil rfl) rfl) (by show 2 ≤ _; decide)) ?_
  · cases env; dsimp only at he; subst he; rfl
  intro h5 t5 k5 F5
  have key : ((figs ns).map vi).isEmpty = decide (figs ns = []) := by
    cases h : figs ns <;> simp
  refine ex_if1 (base := base) fe (hb.tr F5.keep) F5 (PT.congr (PT.cmp (PE.name ok rfl rfl) (PE.list PA.nil (by show 0 ≤ _; decide)) (oc_eqnil hu) rfl) key) ?_ ?_
  · intro hc h6 t6 k6 F6
    have hc' := of_decide_eq_true hc
    refine ex_unpack2 (base := base) (P1 := vs (S [97, 66, 97])) (P2 := vs (S [98, 65])) hA.h fe (hb.tr F6.keep) F6 (kdl he (.inl rfl)) (kdl he (.inl rfl)) (flat_vs _).sq (flat_vs _).sq rfl ?_
      (PE.tup (PA.cons (PE.cstr.congr (by rw [show Str.ofString "aBa" = S [97, 66, 97] by decide +kernel])) (PA.cons (PE.cstr.congr (by rw [show Str.ofString "bA" = S [98, 65] by decide +kernel])) PA.nil rfl) rfl) (by show 2 ≤ _; decide)) ?_
    · cases env; dsimp only at he; subst he; rfl
    intro h7 t7 k7 F7
    have e1 : w1 ns = [97, 66, 97] := if_pos hc'
    have e2 : w2 ns = [98, 65] := if_pos hc'
    rw [e1, e2] at hPL
    exact ex_nil (law_rest W hA hu he fe (by decide) (by decide) (by decide) (by decide) hb hPL (F7.sl ⟨rfl, rfl, trivial⟩))
  · intro hc h6 t6 k6 F6
    have hc' := of_decide_eq_false hc
    have e1 : w1 ns = ((figs ns).take (cutN ns)).map sgn := if_neg hc'
    have e2 : w2 ns = ((figs ns).drop (cutN ns)).map sgn := if_neg hc'
    rw [e1, e2] at hPL
    refine law_rest W hA hu he fe ?_ ?_ (by simp; omega) (by simp; omega) hb hPL (F6.sl ⟨rfl, rfl, trivial⟩)
    · intro c hc
      obtain ⟨x, hx, rfl⟩ := List.mem_map.mp hc
      exact sgn_mem (figs_mem x (List.mem_of_mem_take hx))
    · intro c hc
      obtain ⟨x, hx, rfl⟩ := List.mem_map.mp hc
      exact sgn_mem (figs_mem x (List.mem_of_mem_drop hx))

theorem c_law (W : W1 mg mb base) (hA : OkA A 986) (hu : A.units < 1000) {f : Addr} (hf : FnAt mg base "law" (fargs 11) (fbody 11) (fscope 11) f) {ns : List Int} (hn : ns.length ≤ 63) (hPL : PL (w1 ns) (w2 ns)) :
    Does prog w base A (.ref f) [vl (ns.map vi)] (vb true) := by
  refine does_def ["script"] W.B hf (hA.room (by decide)) ?_ rfl (by decide) (by decide) (by
    intro P hP; simp at hP; subst hP; exact sq_vl fun P hP => (flat_vis _ P hP).sq) ?_
  · intro pm code doc us h
    rcases us with _ | ⟨x, _ | ⟨y, us⟩⟩ <;> simp at h
    rfl
  intro s₀ s env E he fe hb0 F
  refine law_body W (hA.deeper env) ?_ he fe hn hPL hb0 F
  rw [units_deeper]; unfold cLine; omega
end
end Mine
namespace Mine
open PySem PySem.W PyProof.Rows PySem.Calls

def fpos (i : Nat) : Pos := match pw.main.body[i]? with | some (.FunctionDef _ _ _ _ _ _ _ _ _ p) => p | _ => ⟨0, 0, 0, 0⟩
def frec (name : Str) (i : Nat) : DefRec := ⟨name, fargs i, fbody i, fscope i, fpos i⟩

section
variable {p : Program} {loose : List Str} {mean : ExcName → Option Value} {mg mb : Str → Option Value} {h : Heap}

theorem fn_of_top (T : Top p loose mean mg mb h) {name : Str} {i : Nat} (hm : frec name i ∈ recsOf p) : ∃ f, FnAt mg h name (fargs i) (fbody i) (fscope i) f := by
  obtain ⟨a, o, pm, code, doc, h1, h2, h3, h4⟩ := T.fn _ hm
  exact ⟨a, h1, o, pm, code, doc, h2, h3, h4⟩
theorem int_of_top (T : Top p loose mean mg mb h) {x : Str} {i : Int} (hv : valOf p x = some (.int i)) : ∃ t, mg x = some (.int i t) := by
  obtain ⟨v, h1, h2⟩ := T.const x _ hv
  have := h2 h
  cases this
  exact ⟨_, h1⟩
def freeOk (p : Program) (loose : List Str) (x : Str) : Bool := !(startupNames.contains x || loose.contains x || ((recsOf p).map (·.name)).contains x || ((litsOf p).map (·.1)).contains x || ((clssOf p loose).map (·.name)).contains x)
theorem none_of_top (T : Top p loose mean mg mb h) {x : Str} (hx : freeOk p loose x = true) : mg x = none := by
  unfold freeOk at hx
  simp only [Bool.not_eq_true', Bool.or_eq_false_iff, List.contains_eq_mem, decide_eq_false_iff_not] at hx
  obtain ⟨⟨⟨⟨a, b⟩, c⟩, d⟩, e⟩ := hx
  exact T.free x a b c d e

theorem w1_of (T : Top p loose mean mg mb h)
    (hr : recsOf p = [frec "_substitution_cost" 4, frec "_levenshtein_distance" 5, frec "_law_price" 7, frec "_law_table" 8, frec "_law_road" 9, frec "_law_right" 10, frec "law" 11])
    (hf : ((["len", "min", "range", "list", "sum"] : List Str).all (freeOk p loose)) = true)
    (c1 : valOf p "_MOVE_COST" = some (.int 2)) (c2 : valOf p "_CASE_COST" = some (.int 1)) (c3 : valOf p "_MAX_STRING_SIZE" = some (.int 40)) :
    W1 mg mb h ∧ ∃ f, FnAt mg h "law" (fargs 11) (fbody 11) (fscope 11) f := by
  have hm : ∀ (i : Nat) d, (recsOf p)[i]? = some d → d ∈ recsOf p := fun i d e => List.mem_of_getElem? e
  rw [hr] at hm
  have hf' : ∀ x ∈ (["len", "min", "range", "list", "sum"] : List Str), mg x = none := fun x hx => none_of_top T (List.all_eq_true.mp hf x hx)
  rw [← hr] at hm
  refine ⟨⟨⟨⟨T.g, T.b, T.nolimit, T.builtins⟩, int_of_top T c1, int_of_top T c2, int_of_top T c3, fn_of_top T ?_, fn_of_top T ?_, hf' _ (by simp), hf' _ (by simp), hf' _ (by simp), hf' _ (by simp)⟩, fn_of_top T ?_, fn_of_top T ?_, fn_of_top T ?_, fn_of_top T ?_, hf' _ (by simp)⟩, fn_of_top T ?_⟩ <;> rw [hr] <;> simp only [List.mem_cons, true_or, or_true]
end

/-- the end, as the head asks for it -/
theorem good_true {c : ClaimW} {cl : Str → Option Addr} {mean : ExcName → Option Value} {args : List WData} {s₁ : Shared} {h' : Heap} {tk : Nat} (hn : ∀ cls, c.raises args cls = false) (hp : c.post args (.bool true) args = true) (hg : s₁.gens = #[])
    (k : Kp s₁.heap h') : GoodWG c cl mean args s₁ (.ok (.ret (.bool true))) { s₁ with heap := h', toks := tk } :=
  ⟨.inl ⟨.bool true, .bool true, [], rfl, hn, .bool true, hp, fun _ => ⟨List.nodup_nil, fun a ha => nomatch ha⟩⟩, .of_keep k, rfl, .of_eq hg⟩
theorem post_true (l : OpenLaw) (args : List WData) : l.row.claim.post args (.bool true) args = true := by
  show (WShape.has ([] : WRecords) (.bool true) .bool && WTm.holds ([] : WRecords) (.eq .res (.lit (.bool true))) { args := args, res := some (.bool true), after := args }) = true
  rw [Bool.and_eq_true]
  refine ⟨by first | rfl | decide +kernel | simp [WShape.has], ?_⟩
  unfold WTm.holds
  rw [w_eq (w_res rfl) w_lit]
  first | rfl | decide +kernel | simp
theorem ints_all2 {h : Heap} : ∀ {us : List Value} {ns : List Int}, IntsAre us ns → All2 h us (ns.map vi) := by
  intro us ns hi
  have hl := IntsAre.length hi
  refine All2.of_get (by simpa using hl) fun i v P e1 e2 => ?_
  obtain ⟨n, t, rfl, hn⟩ := IntsAre.at hi i v e1
  rw [List.getElem?_map, hn] at e2
  simp at e2; subst e2
  exact ⟨t, rfl⟩
end Mine
namespace Mine
open PyProof.Rows

/-! the prices -/
theorem sc_self (x : Nat) : sc x x = 0 := by simp [sc]
theorem sc_nonneg (x y : Nat) : 0 ≤ sc x y := by unfold sc; split <;> (try split) <;> omega
theorem sc_le (x y : Nat) : sc x y ≤ 2 := by unfold sc; split <;> (try split) <;> omega
theorem sc_symm (x y : Nat) : sc x y = sc y x := by
  unfold sc
  by_cases h : x = y
  · simp [h]
  · rw [if_neg h, if_neg (Ne.symm h)]
    by_cases h' : lo1 x = lo1 y
    · rw [if_pos h', if_pos h'.symm]
    · rw [if_neg h', if_neg (Ne.symm h')]
theorem sc_zero {x y : Nat} (h : sc x y = 0) : x = y := by
  unfold sc at h
  by_cases e : x = y
  · exact e
  · rw [if_neg e] at h
    split at h <;> omega
theorem sc_tri (x y z : Nat) : sc x z ≤ sc x y + sc y z := by
  unfold sc
  by_cases h1 : x = y
  · subst h1; simp
  · by_cases h2 : y = z
    · subst h2; simp
    · rw [if_neg h1, if_neg h2]
      by_cases h3 : x = z
      · rw [if_pos h3]; split <;> split <;> omega
      · rw [if_neg h3]
        by_cases g1 : lo1 x = lo1 y
        · by_cases g2 : lo1 y = lo1 z
          · rw [if_pos g1, if_pos g2, if_pos (g1.trans g2)]; omega
          · rw [if_pos g1, if_neg g2]; split <;> omega
        · rw [if_neg g1]; split <;> split <;> omega

/-- a way from one word to another, and what it costs -/
inductive Al : List Nat → List Nat → Int → Prop
  | nil : Al [] [] 0
  | del {a b : List Nat} {c : Int} (x : Nat) : Al a b c → Al (x :: a) b (c + 2)
  | ins {a b : List Nat} {c : Int} (y : Nat) : Al a b c → Al a (y :: b) (c + 2)
  | sub {a b : List Nat} {c : Int} (x y : Nat) : Al a b c → Al (x :: a) (y :: b) (c + sc x y)

theorem Al.to {a b : List Nat} {c c' : Int} (h : Al a b c) (e : c = c') : Al a b c' := e ▸ h
theorem Al.dels : ∀ a : List Nat, Al a [] (2 * (a.length : Int))
  | [] => Al.nil
  | x :: a => (Al.del x (Al.dels a)).to (by simp; omega)
theorem Al.inss : ∀ b : List Nat, Al [] b (2 * (b.length : Int))
  | [] => Al.nil
  | x :: a => (Al.ins x (Al.inss a)).to (by simp; omega)
theorem ed_al : ∀ a b : List Nat, Al a b (ed a b)
  | [], b => by rw [ed_nil_left]; exact Al.inss b
  | x :: a, [] => by rw [ed_nil_right]; exact Al.dels (x :: a)
  | x :: a, y :: b => by
    rw [ed_cons]
    have h1 := (Al.sub x y (ed_al a b))
    have h2 := (Al.del x (ed_al a (y :: b)))
    have h3 := (Al.ins y (ed_al (x :: a) b))
    rcases (by omega : min (sc x y + ed a b) (min (2 + ed a (y :: b)) (2 + ed (x :: a) b)) = sc x y + ed a b ∨ min (sc x y + ed a b) (min (2 + ed a (y :: b)) (2 + ed (x :: a) b)) = 2 + ed a (y :: b) ∨ min (sc x y + ed a b) (min (2 + ed a (y :: b)) (2 + ed (x :: a) b)) = 2 + ed (x :: a) b) with e | e | e
    · rw [e]; exact h1.to (by omega)
    · rw [e]; exact h2.to (by omega)
    · rw [e]; exact h3.to (by omega)
termination_by a b => a.length + b.length
theorem ed_del (x : Nat) (a b : List Nat) : ed (x :: a) b ≤ ed a b + 2 := by
  cases b with
  | nil => rw [ed_nil_right, ed_nil_right]; simp; omega
  | cons y b => rw [ed_cons]; omega
theorem ed_ins (y : Nat) (a b : List Nat) : ed a (y :: b) ≤ ed a b + 2 := by
  cases a with
  | nil => rw [ed_nil_left, ed_nil_left]; simp; omega
  | cons x a => rw [ed_cons]; omega
theorem ed_le {a b : List Nat} {c : Int} (h : Al a b c) : ed a b ≤ c := by
  induction h with
  | nil => rw [ed_nil_left]; simp
  | @del a b c x h ih => have := ed_del x a b; omega
  | @ins a b c y h ih => have := ed_ins y a b; omega
  | @sub a b c x y h ih => rw [ed_cons]; omega
theorem Al.refl : ∀ a : List Nat, Al a a 0
  | [] => .nil
  | x :: a => (Al.sub x x (Al.refl a)).to (by rw [sc_self]; omega)
theorem Al.symm {a b : List Nat} {c : Int} (h : Al a b c) : Al b a c := by
  induction h with
  | nil => exact .nil
  | del x h ih => exact .ins x ih
  | ins y h ih => exact .del y ih
  | sub x y h ih => exact (Al.sub y x ih).to (by rw [sc_symm])
theorem Al.app {a b a' b' : List Nat} {c c' : Int} (h : Al a b c) (h' : Al a' b' c') : Al (a ++ a') (b ++ b') (c + c') := by
  induction h with
  | nil => exact h'.to (by omega)
  | del x h ih => exact (Al.del x ih).to (by omega)
  | ins y h ih => exact (Al.ins y ih).to (by omega)
  | sub x y h ih => exact (Al.sub x y ih).to (by omega)
theorem Al.rev {a b : List Nat} {c : Int} (h : Al a b c) : Al a.reverse b.reverse c := by
  induction h with
  | nil => exact .nil
  | del x h ih => simp only [List.reverse_cons]; have := (ih.app (Al.del x .nil)); simpa using this
  | ins y h ih => simp only [List.reverse_cons]; have := (ih.app (Al.ins y .nil)); simpa using this
  | sub x y h ih => simp only [List.reverse_cons]; have := (ih.app (Al.sub x y .nil)); simpa using this
theorem Al.nonneg {a b : List Nat} {c : Int} (h : Al a b c) : 0 ≤ c := by
  induction h with
  | nil => omega
  | del x h ih => omega
  | ins y h ih => omega
  | sub x y h ih => have := sc_nonneg x y; omega
theorem Al.zero {a b : List Nat} {c : Int} (h : Al a b c) (h0 : c = 0) : a = b := by
  induction h with
  | nil => rfl
  | del x h ih => have := h.nonneg; omega
  | ins y h ih => have := h.nonneg; omega
  | sub x y h ih =>
    have := h.nonneg
    have := sc_nonneg x y
    rw [ih (by omega), sc_zero (by omega : sc x y = 0)]
/-- ways laid one behind the other -/
theorem Al.trans : ∀ (n : Nat) {a b d : List Nat} {c e : Int}, a.length + b.length + d.length ≤ n → Al a b c → Al b d e → ∃ f, f ≤ c + e ∧ Al a d f := by
  intro n
  induction n with
  | zero =>
    intro a b d c e hn h h'
    cases a <;> cases b <;> cases d <;> simp at hn
    exact ⟨0, by have := h.nonneg; have := h'.nonneg; omega, .nil⟩
  | succ n ih =>
    intro a b d c e hn h h'
    cases h with
    | nil => exact ⟨e, by omega, h'⟩
    | @del a b c x h =>
      obtain ⟨f, hf, g⟩ := ih (by simp at hn; omega) h h'
      exact ⟨f + 2, by omega, .del x g⟩
    | @ins a b c y h =>
      cases h' with
      | @del _ _ e _ h' =>
        obtain ⟨f, hf, g⟩ := ih (by simp at hn; omega) h h'
        exact ⟨f, by omega, g⟩
      | @ins _ d e z h' =>
        obtain ⟨f, hf, g⟩ := ih (by simp at hn ⊢; omega) (Al.ins y h) h'
        exact ⟨f + 2, by omega, .ins z g⟩
      | @sub _ d e _ z h' =>
        obtain ⟨f, hf, g⟩ := ih (by simp at hn; omega) h h'
        exact ⟨f + 2, by have := sc_nonneg y z; omega, .ins z g⟩
    | @sub a b c x y h =>
      cases h' with
      | @del _ _ e _ h' =>
        obtain ⟨f, hf, g⟩ := ih (by simp at hn; omega) h h'
        exact ⟨f + 2, by have := sc_nonneg x y; omega, .del x g⟩
      | @ins _ d e z h' =>
        obtain ⟨f, hf, g⟩ := ih (by simp at hn ⊢; omega) (Al.sub x y h) h'
        exact ⟨f + 2, by omega, .ins z g⟩
      | @sub _ d e _ z h' =>
        obtain ⟨f, hf, g⟩ := ih (by simp at hn; omega) h h'
        exact ⟨f + sc x z, by have := sc_tri x y z; omega, .sub x z g⟩

theorem ed_tri (a b d : List Nat) : ed a d ≤ ed a b + ed b d := by
  obtain ⟨f, hf, g⟩ := Al.trans _ (Nat.le_refl _) (ed_al a b) (ed_al b d)
  have := ed_le g; omega
theorem ed_symm (a b : List Nat) : ed a b = ed b a := by
  have h1 := ed_le (ed_al a b).symm
  have h2 := ed_le (ed_al b a).symm
  omega
theorem ed_self (a : List Nat) : ed a a = 0 := by
  have h1 := ed_le (Al.refl a)
  have h2 := (ed_al a a).nonneg
  omega
theorem ed_nonneg (a b : List Nat) : 0 ≤ ed a b := (ed_al a b).nonneg
theorem ed_pos {a b : List Nat} (h : a ≠ b) : 0 < ed a b := by
  have h1 := ed_nonneg a b
  rcases Int.lt_or_eq_of_le h1 with h2 | h2
  · exact h2
  · exact absurd ((ed_al a b).zero h2.symm) h
theorem ed_rev (a b : List Nat) : ed a.reverse b.reverse = ed a b := by
  have h1 := ed_le (ed_al a b).rev
  have h2 := ed_le (ed_al a.reverse b.reverse).rev
  simp only [List.reverse_reverse] at h2
  omega
theorem ed_bound (a b : List Nat) : ed a b ≤ 2 * ((a.length : Int) + b.length) := by
  have := ed_le ((Al.dels a).app (Al.inss b))
  simp only [List.append_nil, List.nil_append] at this
  omega
theorem ed_same (x : Nat) (a b : List Nat) : ed (x :: a) (x :: b) = ed a b := by
  have h1 := ed_le (Al.sub x x (ed_al a b))
  rw [sc_self] at h1
  have h2 := ed_tri a (x :: a) b
  have h3 := ed_tri (x :: a) (x :: b) b
  have h4 := ed_le (Al.ins x (Al.refl a))
  rw [ed_cons, sc_self] at *
  have h5 := ed_tri a (x :: b) b
  have h6 := ed_le (Al.del x (Al.refl b))
  have h7 := ed_tri a (x :: a) b
  omega
theorem ed_stripP : ∀ a b : List Nat, ed (stripP a b).1 (stripP a b).2 = ed a b
  | x :: a, y :: b => by
    unfold stripP
    split
    · rename_i h; subst h
      rw [ed_stripP a b, ed_same]
    · rfl
  | [], b => by cases b <;> simp [stripP]
  | _ :: _, [] => by simp [stripP]
theorem ed_strip (a b : List Nat) : ed (strip a b).1 (strip a b).2 = ed a b := by
  unfold strip
  simp only
  rw [ed_rev, ed_stripP, ed_rev, ed_stripP]
end Mine
namespace Mine
open PyProof.Rows

/-! the rows of _levenshtein_distance -/
def rowOf (ra rb : List Nat) : List Nat → List Int
  | [] => []
  | x :: a => ed (x :: ra) rb :: rowOf (x :: ra) rb a

theorem inner_val (c : Nat) (rb : List Nat) : ∀ (a ra : List Nat) (mn : Int), ∃ mn', inner c a (rowOf ra rb a) (ed ra rb) (ed ra (c :: rb)) mn = (rowOf ra (c :: rb) a, ed (a.reverse ++ ra) (c :: rb), mn') ∧ mn' ≤ mn ∧ (a ≠ [] → mn' ≤ ed (a.reverse ++ ra) (c :: rb))
  | [], ra, mn => ⟨mn, rfl, Int.le_refl _, fun h => absurd rfl h⟩
  | x :: a, ra, mn => by
    have hr : min (min (ed ra (c :: rb)) (ed (x :: ra) rb) + 2) (ed ra rb + sc c x) = ed (x :: ra) (c :: rb) := by
      rw [ed_cons, sc_symm x c]; omega
    obtain ⟨mn', h1, h2, h3⟩ := inner_val c rb a (x :: ra) (if ed (x :: ra) (c :: rb) < mn then ed (x :: ra) (c :: rb) else mn)
    refine ⟨mn', ?_, ?_, fun _ => ?_⟩
    · show inner c (x :: a) (ed (x :: ra) rb :: rowOf (x :: ra) rb a) _ _ _ = _
      unfold inner
      simp only [hr, h1]
      simp [rowOf]
    · split at h2 <;> omega
    · by_cases ha : a = []
      · subst ha
        simp only [List.reverse_cons, List.reverse_nil, List.nil_append, List.singleton_append]
        split at h2 <;> omega
      · have := h3 ha
        simpa using this

/-- a whole row -/
theorem inner_row (c : Nat) (rb a : List Nat) (ha : a ≠ []) : ∃ mn', inner c a (rowOf [] rb a) ((rb.length : Int) * 2) ((rb.length : Int) * 2) big = (rowOf [] (c :: rb) a, ed a.reverse (c :: rb), mn') ∧ mn' ≤ ed a.reverse (c :: rb) := by
  cases a with
  | nil => exact absurd rfl ha
  | cons x a =>
    have e0 : ed [] rb = 2 * (rb.length : Int) := ed_nil_left rb
    have e1 : ed [] (c :: rb) = 2 * ((rb.length : Int) + 1) := by rw [ed_nil_left]; simp
    have hr : min (min ((rb.length : Int) * 2) (ed [x] rb) + 2) ((rb.length : Int) * 2 + sc c x) = ed [x] (c :: rb) := by
      rw [ed_cons, sc_symm x c, e0, e1]
      have := sc_le c x
      omega
    obtain ⟨mn', h1, h2, h3⟩ := inner_val c rb a [x] (if ed [x] (c :: rb) < big then ed [x] (c :: rb) else big)
    refine ⟨mn', ?_, ?_⟩
    · show inner c (x :: a) (ed [x] rb :: rowOf [x] rb a) _ _ _ = _
      unfold inner
      simp only [hr, h1]
      simp [rowOf]
    · by_cases ha : a = []
      · subst ha
        simp only [List.reverse_cons, List.reverse_nil, List.nil_append]
        split at h2 <;> omega
      · have := h3 ha
        simpa using this

theorem outer_val (a : List Nat) (ha : a ≠ []) (m : Int) : ∀ (b rb : List Nat) (i res : Int), i = rb.length →
    (outer a m b i (rowOf [] rb a) res = m + 1 ∨ outer a m b i (rowOf [] rb a) res = if b = [] then res else ed a.reverse (b.reverse ++ rb)) ∧
    (2 * ((a.length : Int) + b.length + rb.length) ≤ m → outer a m b i (rowOf [] rb a) res = if b = [] then res else ed a.reverse (b.reverse ++ rb))
  | [], rb, i, res, _ => ⟨.inr rfl, fun _ => rfl⟩
  | c :: b, rb, i, res, hi => by
    subst hi
    obtain ⟨mn', h1, h2⟩ := inner_row c rb a ha
    obtain ⟨g1, g2⟩ := outer_val a ha m b (c :: rb) ((rb.length : Int) + 1) (ed a.reverse (c :: rb)) (by simp)
    have eo : outer a m (c :: b) (rb.length : Int) (rowOf [] rb a) res = if m < mn' then m + 1 else outer a m b ((rb.length : Int) + 1) (rowOf [] (c :: rb) a) (ed a.reverse (c :: rb)) := by
      show (let z := inner c a (rowOf [] rb a) ((rb.length : Int) * 2) ((rb.length : Int) * 2) big; if m < z.2.2 then m + 1 else outer a m b ((rb.length : Int) + 1) z.1 z.2.1) = _
      rw [h1]
    have ev : (if b = [] then ed a.reverse (c :: rb) else ed a.reverse (b.reverse ++ (c :: rb))) = ed a.reverse ((c :: b).reverse ++ rb) := by
      by_cases hb : b = []
      · subst hb; simp
      · rw [if_neg hb]; simp
    rw [ev] at g1 g2
    rw [if_neg (by simp)]
    rw [eo]
    refine ⟨?_, fun hm => ?_⟩
    · split
      · exact .inl rfl
      · exact g1
    · have hb := ed_bound a.reverse (c :: rb)
      simp only [List.length_reverse, List.length_cons] at hb hm
      rw [if_neg (by omega)]
      exact g2 (by simp only [List.length_cons]; omega)

theorem rgi_row : ∀ (a ra : List Nat), rgi (2 * ((ra.length : Int) + 1)) 2 a.length = rowOf ra [] a
  | [], ra => rfl
  | x :: a, ra => by
    have ih := rgi_row a (x :: ra)
    unfold rowOf
    rw [← ih, ed_nil_right]
    unfold rgi
    rw [List.length_cons, List.range_succ_eq_map]
    simp only [List.map_cons, List.map_map, List.length_cons]
    congr 1
    simp
    intro i _
    omega

theorem core_val (a b : List Nat) (m : Int) (ha : a ≠ []) (hb : b ≠ []) : (core a b m = m + 1 ∨ core a b m = ed a b) ∧ (2 * ((a.length : Int) + b.length) ≤ m → core a b m = ed a b) := by
  have h := outer_val a ha m b [] 0 0 rfl
  rw [if_neg hb] at h
  simp only [List.append_nil, ed_rev, List.length_nil] at h
  have e : rgi 2 2 a.length = rowOf [] [] a := by
    have := rgi_row a []
    simpa using this
  unfold core
  rw [e]
  refine ⟨?_, fun hm => ?_⟩
  · split
    · exact .inl rfl
    · exact h.1
  · rw [if_neg (by omega)]
    exact h.2 (by simpa using hm)

theorem lev_val (a b : List Nat) (m : Int) : (lev a b m = m + 1 ∨ lev a b m = ed a b) ∧ (2 * ((a.length : Int) + b.length) ≤ m → lev a b m = ed a b) := by
  unfold lev
  by_cases hab : a = b
  · subst hab
    rw [if_pos rfl, ed_self]
    exact ⟨.inr rfl, fun _ => rfl⟩
  rw [if_neg hab]
  have hs := ed_strip a b
  obtain ⟨l1, l2⟩ := strip_le a b
  by_cases he : (strip a b).1 = [] ∨ (strip a b).2 = []
  · rw [if_pos he]
    have : 2 * (((strip a b).1.length : Int) + (strip a b).2.length) = ed a b := by
      rw [← hs]
      rcases he with h | h
      · rw [h, ed_nil_left]; simp
      · rw [h, ed_nil_right]; simp
    exact ⟨.inr this, fun _ => this⟩
  rw [if_neg he]
  obtain ⟨n1, n2⟩ := not_or.mp he
  split
  · have h := core_val (strip a b).2 (strip a b).1 m n2 n1
    rw [ed_symm, hs] at h
    exact ⟨h.1, fun hm => h.2 (by omega)⟩
  · have h := core_val (strip a b).1 (strip a b).2 m n1 n2
    rw [hs] at h
    exact ⟨h.1, fun hm => h.2 (by omega)⟩
theorem lev_self (a : List Nat) (m : Int) : lev a a m = 0 := by unfold lev; rw [if_pos rfl]

/-! the road -/
def Bf (one two : List Nat) (p q : Nat × Nat) : Prop := ed (wd one two p.1 p.2) (wd one two q.1 q.2) ≤ tt one two p.1 p.2 - tt one two q.1 q.2
theorem Bf.rf {one two : List Nat} (p : Nat × Nat) : Bf one two p p := by unfold Bf; rw [ed_self]; omega
theorem Bf.tr {one two : List Nat} {p q r : Nat × Nat} (h : Bf one two p q) (h' : Bf one two q r) : Bf one two p r := by
  unfold Bf at *
  have := ed_tri (wd one two p.1 p.2) (wd one two q.1 q.2) (wd one two r.1 r.2)
  omega
theorem Bf.step {one two : List Nat} {j k : Nat} (hj : j ≤ one.length) (hk : k ≤ two.length) (h : j < one.length ∨ k < two.length) : Bf one two (j, k) (nx one two j k) := by
  have pre : ∀ (p a b : List Nat) (c : Int), Al a b c → ed (p ++ a) (p ++ b) ≤ c := fun p a b c h => by
    have := ed_le ((Al.refl p).app h); omega
  rcases nx_cases hj hk h with ⟨e, a, b, t⟩ | ⟨e, a, t⟩ | ⟨e, a, t⟩ <;> (rw [e]; unfold Bf wd; simp only)
  · have e1 : one.drop j = one.getD j 0 :: one.drop (j + 1) := by rw [List.drop_eq_getElem_cons a]; simp [List.getD, a]
    have e2 : two.take (k + 1) = two.take k ++ [two.getD k 0] := by rw [List.take_add_one]; simp [List.getD, b]
    rw [e1, e2, List.append_assoc]
    have := pre (two.take k) (one.getD j 0 :: one.drop (j + 1)) ([two.getD k 0] ++ one.drop (j + 1)) _ (Al.sub (one.getD j 0) (two.getD k 0) (Al.refl (one.drop (j + 1))))
    omega
  · have e1 : one.drop j = one.getD j 0 :: one.drop (j + 1) := by rw [List.drop_eq_getElem_cons a]; simp [List.getD, a]
    rw [e1]
    have := pre (two.take k) (one.getD j 0 :: one.drop (j + 1)) (one.drop (j + 1)) _ (Al.del (one.getD j 0) (Al.refl (one.drop (j + 1))))
    omega
  · have e2 : two.take (k + 1) = two.take k ++ [two.getD k 0] := by rw [List.take_add_one]; simp [List.getD, a]
    rw [e2, List.append_assoc]
    have := pre (two.take k) (one.drop j) ([two.getD k 0] ++ one.drop j) _ (Al.ins (two.getD k 0) (Al.refl (one.drop j)))
    omega

def ent (one two : List Nat) (p : Nat × Nat) : List Nat × Int := (wd one two p.1 p.2, tt one two 0 0 - tt one two p.1 p.2)
theorem Rd.places {one two : List Nat} {j k : Nat} {acc : List (List Nat × Int)} (h : Rd one two j k acc) :
    ∃ pl : List (Nat × Nat), acc = pl.map (ent one two) ∧ pl.Pairwise (Bf one two) ∧ (∀ p ∈ pl, Bf one two (0, 0) p ∧ Bf one two p (j, k)) ∧ Bf one two (0, 0) (j, k) := by
  induction h with
  | start => exact ⟨[(0, 0)], by simp [ent, wd], by simp, by simp [Bf.rf], Bf.rf _⟩
  | @step j k a wl c h hjk ih =>
    obtain ⟨pl, e, pw, hp, h0⟩ := ih
    obtain ⟨_, hj, hk⟩ := h.len
    have st := Bf.step hj hk hjk
    rw [e]
    split
    · exact ⟨pl, rfl, pw, fun p hm => ⟨(hp p hm).1, (hp p hm).2.tr st⟩, h0.tr st⟩
    · refine ⟨pl ++ [nx one two j k], by simp [ent], ?_, fun p hm => ?_, h0.tr st⟩
      · rw [List.pairwise_append]
        refine ⟨pw, by simp, fun p hm q hq => ?_⟩
        have : q = nx one two j k := by simpa using hq
        subst this
        exact (hp p hm).2.tr st
      · rcases List.mem_append.mp hm with hm | hm
        · exact ⟨(hp p hm).1, (hp p hm).2.tr st⟩
        · have : p = nx one two j k := by simpa using hm
          subst this
          exact ⟨h0.tr st, Bf.rf _⟩

theorem PL_holds {one two : List Nat} (hl : one.length + two.length ≤ 12) : PL one two := by
  intro acc hrd i j p q hij hp hq
  obtain ⟨pl, rfl, pw, hall, _⟩ := hrd.places
  rw [List.getElem?_map] at hp hq
  obtain ⟨x, hx, rfl⟩ := Option.map_eq_some_iff.mp hp
  obtain ⟨y, hy, rfl⟩ := Option.map_eq_some_iff.mp hq
  have b1 : Bf one two x y := by
    rcases Nat.eq_or_lt_of_le hij with e | e
    · subst e
      rw [hx] at hy; cases hy
      exact Bf.rf _
    · obtain ⟨g1, g2⟩ := List.getElem?_eq_some_iff.mp hx
      obtain ⟨g3, g4⟩ := List.getElem?_eq_some_iff.mp hy
      have := List.pairwise_iff_getElem.mp pw i j g1 g3 e
      rw [g2, g4] at this; exact this
  have b0 := (hall x (List.mem_of_getElem? hx)).1
  have b2 := (hall y (List.mem_of_getElem? hy)).2
  have hw0 : wd one two 0 0 = one := by simp [wd]
  have hw1 : wd one two one.length two.length = two := by simp [wd]
  have ht0 : tt one two 0 0 = ed one two := by simp [tt]
  have ht1 : tt one two one.length two.length = 0 := by simp [tt, ed_nil_left]
  unfold Bf at b0 b1 b2
  simp only at b0 b1 b2
  rw [hw0] at b0
  rw [hw1, ht1] at b2
  have t1 := ed_tri one (wd one two x.1 x.2) two
  have t2 := ed_tri (wd one two x.1 x.2) (wd one two y.1 y.2) two
  have key : ed (wd one two x.1 x.2) (wd one two y.1 y.2) = tt one two x.1 x.2 - tt one two y.1 y.2 := by omega
  have hlen : ∀ p : Nat × Nat, (wd one two p.1 p.2).length ≤ 12 := fun p => by simp [wd]; omega
  have hx' := hlen x
  have hy' := hlen y
  unfold ent
  simp only
  have ec : tt one two 0 0 - tt one two y.1 y.2 - (tt one two 0 0 - tt one two x.1 x.2) = ed (wd one two x.1 x.2) (wd one two y.1 y.2) := by omega
  rw [ec]
  refine ⟨(lev_val _ _ 99).2 (by omega), ?_, ?_⟩
  · rcases (lev_val (wd one two y.1 y.2) (wd one two x.1 x.2) (ed (wd one two x.1 x.2) (wd one two y.1 y.2) - 1)).1 with e | e
    · rw [e]; omega
    · rw [e, ed_symm]
  · constructor
    · intro h e
      rw [e, lev_self] at h
      omega
    · intro h
      rcases (lev_val (wd one two x.1 x.2) (wd one two y.1 y.2) 0).1 with e | e
      · rw [e]; omega
      · rw [e]; exact ed_pos h

theorem PL_all (ns : List Int) : PL (w1 ns) (w2 ns) := by
  apply PL_holds
  have := figs_len ns
  unfold w1 w2
  split
  · decide
  · simp; omega
end Mine

open PySem PySem.W PyProof.Rows PySem.Calls Mine
set_option maxHeartbeats 8000000 in
theorem PySem.Challenge.cw_mj0341_01_holds : PySem.Challenge.rw_mj0341_01.Holds := by
  w_on; o_law; k_head; (case hw => w_witness2)
  intro w s₀ s₁ mg mb G Y fa o pm cd doc dV kV ho hd hcd hD hmg hg args vals as hpre hlay hrd hwl hlo
  refine Ground.open G ?_
  intro T B D TE TW
  clear Y G hd hcd hD B D TE TW
  wrow_args hpre hlay hrd hwl hlo
  rename_i ns _ _ _ _ _ _ _ l us _ hL _ _ _ hI _ hlen _
  obtain ⟨W, f, hf⟩ := Mine.w1_of T (by kernel_rfl) (by decide +kernel) (by kernel_rfl) (by kernel_rfl) (by kernel_rfl)
  have e : fa = f := by
    have := hf.g
    have h2 : mg (Str.ofString "law") = some (.ref fa) := hmg
    rw [h2] at this
    cases this; rfl
  subst e
  refine Mine.c_law (A := callerA) W ⟨rfl, by decide⟩ (by decide) hf (by omega) (Mine.PL_all ns) s₁ [.ref l] _ _ Mine.Kp.rf ⟨⟨l, us, rfl, hL, Mine.ints_all2 hI⟩, trivial⟩ fun v h' tk k hv => ?_
  have : v = .bool true := hv
  subst this
  exact Mine.good_true (by intro cls; rfl) (Mine.post_true _ _) hg k
