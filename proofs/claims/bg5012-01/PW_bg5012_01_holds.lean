import PyProof.Rows.All
import Wide.All
import OpenK.AllK
import Wide.FinOn
import PySem.Challenge.RW_bg5012_01
set_option Elab.async false
section
open PySem PySem.W PyProof.Rows
set_option maxRecDepth 100000 in
set_option maxHeartbeats 8000000 in
open_top hd for PySem.Challenge.rw_bg5012_01
end
section
open PySem PySem.W PyProof.Rows PySem.Calls
namespace Mine

abbrev D := PyData
abbrev Ev := List (Str × D)

/-! ## how the heap bears pure data -/
mutual
inductive RV (h : Heap) : Value → D → Prop
  | none : RV h .none .none
  | bool (b : Bool) : RV h (.bool b) (.bool b)
  | int (i : Int) (t : Tok) : RV h (.int i t) (.int i)
  | str (x : Str) (t : Tok) : RV h (.str x t) (.str x)
  | tup {a : Addr} {vs : Array Value} {ds : List D} : IsTup h a vs → RVs h vs.toList ds → RV h (.ref a) (.tuple ds)
  | lst {a : Addr} {vs : Array Value} {ds : List D} : h.IsList a vs → RVs h vs.toList ds → RV h (.ref a) (.list ds)
  | obj (a : Nat) : RV h (.ref a) (.dict [(.int a, .none)])
  | lat {a : Addr} {vs : Array Value} {ds : List D} : PlainL h a vs → RVs h vs.toList ds → RV h (.ref a) (.dict [(.int a, .list ds)])
  | typ (T : String) : RV h (.type T) (.dict [(.str (Str.ofString T), .none)])
inductive RVs (h : Heap) : List Value → List D → Prop
  | nil : RVs h [] []
  | cons {v : Value} {d : D} {vs : List Value} {ds : List D} : RV h v d → RVs h vs ds → RVs h (v :: vs) (d :: ds)
end
def Kp (h h' : Heap) : Prop := ∀ b o, h.get? b = some o → h'.get? b = some o
def Ext (s s' : Shared) : Prop := (∃ h t, s' = { s with heap := h, toks := t }) ∧ Kp s.heap s'.heap

theorem Kp.refl (h : Heap) : Kp h h := fun _ _ e => e
theorem Kp.trans {a b c : Heap} (x : Kp a b) (y : Kp b c) : Kp a c := fun _ _ e => y _ _ (x _ _ e)
theorem Ext.refl (s : Shared) : Ext s s := ⟨⟨s.heap, s.toks, rfl⟩, Kp.refl _⟩
theorem Ext.trans {a b c : Shared} (x : Ext a b) (y : Ext b c) : Ext a c := by
  obtain ⟨⟨h, t, rfl⟩, k⟩ := x
  obtain ⟨⟨h', t', rfl⟩, k'⟩ := y
  exact ⟨⟨h', t', rfl⟩, k.trans k'⟩
theorem Ext.mk' {s : Shared} {h : Heap} {t : Nat} (k : Kp s.heap h) : Ext s { s with heap := h, toks := t } := ⟨⟨h, t, rfl⟩, k⟩
theorem Kp.push (h : Heap) (o : Obj) : Kp h (h.push o) := fun _ _ e => Heap.get?_push_of_some _ e
theorem isList_kp {h h' : Heap} {a : Addr} {vs : Array Value} (x : h.IsList a vs) (k : Kp h h') : h'.IsList a vs := let ⟨o, e, r⟩ := x; ⟨o, k _ _ e, r⟩
mutual
theorem RV.kp {h h' : Heap} (k : Kp h h') : ∀ {v : Value} {d : D}, RV h v d → RV h' v d
  | _, _, .none => .none
  | _, _, .bool b => .bool b
  | _, _, .int i t => .int i t
  | _, _, .str x t => .str x t
  | _, _, .tup a b => .tup (a.keeps k) (RVs.kp k b)
  | _, _, .lst a b => .lst (isList_kp a k) (RVs.kp k b)
  | _, _, .lat a b => .lat (a.keeps k) (RVs.kp k b)
  | _, _, .obj a => .obj a
  | _, _, .typ T => .typ T
theorem RVs.kp {h h' : Heap} (k : Kp h h') : ∀ {v : List Value} {d : List D}, RVs h v d → RVs h' v d
  | _, _, .nil => .nil
  | _, _, .cons a b => .cons (RV.kp k a) (RVs.kp k b)
end
mutual
def nd : D → Bool
  | .dict _ => false
  | .tuple ds => nds ds
  | .list ds => nds ds
  | _ => true
def nds : List D → Bool
  | [] => true
  | d :: r => nd d && nds r
end
mutual
theorem RV.reads {h : Heap} : ∀ {v : Value} {d : D}, RV h v d → nd d = true → ∃ as, Reads h v d as
  | _, _, .none, _ => ⟨_, .none⟩
  | _, _, .bool b, _ => ⟨_, .bool b⟩
  | _, _, .int i t, _ => ⟨_, .int i t⟩
  | _, _, .str x t, _ => ⟨_, .str x t⟩
  | _, _, .tup a b, n => by
    obtain ⟨o, h1, h2, n', h3⟩ := a
    obtain ⟨_, x⟩ := RVs.reads b (by simpa [nd] using n)
    exact ⟨_, .tuple h1 h2 h3 x⟩
  | _, _, .lst a b, n => by
    obtain ⟨o, h1, h2, n', h3⟩ := a
    obtain ⟨_, x⟩ := RVs.reads b (by simpa [nd] using n)
    exact ⟨_, .list h1 h2 h3 x⟩
  | _, _, .obj a, n => by simp [nd] at n
  | _, _, .lat a b, n => by simp [nd] at n
  | _, _, .typ a, n => by simp [nd] at n
theorem RVs.reads {h : Heap} : ∀ {v : List Value} {d : List D}, RVs h v d → nds d = true → ∃ as, ReadsAll h v d as
  | _, _, .nil, _ => ⟨_, .nil⟩
  | _, _, .cons a b, n => by
    simp only [nds, Bool.and_eq_true] at n
    obtain ⟨_, x⟩ := RV.reads a n.1
    obtain ⟨_, y⟩ := RVs.reads b n.2
    exact ⟨_, .cons x y⟩
end
/-- a store into the frame's own namespace leaves what is borne -/
theorem RV.same_aux {h h' : Heap} {L : Addr} (hL : ∀ o, h.get? L = some o → ∃ es n, o.data = .dict es n) (k : Heap.SameBut L h h') (a : Addr) (o : Obj) (e : h.get? a = some o) (vs : Array Value) (n : Nat) (hd : o.data = .seq vs n) : h'.get? a = some o := by
  refine (k.2 a fun e' => ?_).trans e
  subst e'
  obtain ⟨es, n', e⟩ := hL o e
  rw [hd] at e; cases e
mutual
theorem RV.same {h h' : Heap} {L : Addr} (hL : ∀ o, h.get? L = some o → ∃ es n, o.data = .dict es n) (k : Heap.SameBut L h h') : ∀ {v : Value} {d : D}, RV h v d → RV h' v d
  | _, _, .none => .none
  | _, _, .bool b => .bool b
  | _, _, .int i t => .int i t
  | _, _, .str x t => .str x t
  | _, _, .tup a b => by
    obtain ⟨o, h1, h2, n, h3⟩ := a
    exact .tup ⟨o, RV.same_aux hL k _ _ h1 _ _ h3, h2, n, h3⟩ (RVs.same hL k b)
  | _, _, .lst a b => by
    obtain ⟨o, h1, h2, n, h3⟩ := a
    exact .lst ⟨o, RV.same_aux hL k _ _ h1 _ _ h3, h2, n, h3⟩ (RVs.same hL k b)
  | _, _, .lat a b => by
    obtain ⟨o, n, h1, h2, h4, h3⟩ := a
    exact .lat ⟨o, n, RV.same_aux hL k _ _ h1 _ _ h3, h2, h4, h3⟩ (RVs.same hL k b)
  | _, _, .obj a => .obj a
  | _, _, .typ T => .typ T
theorem RVs.same {h h' : Heap} {L : Addr} (hL : ∀ o, h.get? L = some o → ∃ es n, o.data = .dict es n) (k : Heap.SameBut L h h') : ∀ {v : List Value} {d : List D}, RVs h v d → RVs h' v d
  | _, _, .nil => .nil
  | _, _, .cons a b => .cons (RV.same hL k a) (RVs.same hL k b)
end
theorem RVs.inv_nil {h : Heap} {vs : List Value} (r : RVs h vs []) : vs = [] := by cases r; rfl
theorem RVs.inv_cons {h : Heap} {vs : List Value} {d : D} {ds : List D} (r : RVs h vs (d :: ds)) : ∃ v vs', vs = v :: vs' ∧ RV h v d ∧ RVs h vs' ds := by
  cases r with
  | cons a b => exact ⟨_, _, rfl, a, b⟩
theorem RVs.length {h : Heap} : ∀ {ds : List D} {vs : List Value}, RVs h vs ds → vs.length = ds.length
  | [], vs, r => by rw [r.inv_nil]; rfl
  | d :: ds, vs, r => by obtain ⟨v, vs', rfl, _, r'⟩ := r.inv_cons; simp [r'.length]
theorem RVs.get {h : Heap} : ∀ {ds : List D} {vs : List Value} {i : Nat} {d : D}, RVs h vs ds → ds[i]? = some d → ∃ v, vs[i]? = some v ∧ RV h v d
  | [], vs, i, d, r, e => by cases e
  | d' :: ds, vs, i, d, r, e => by
    obtain ⟨v, vs', rfl, a, r'⟩ := r.inv_cons
    cases i with
    | zero => simp at e; subst e; exact ⟨v, rfl, a⟩
    | succ i => simp at e; simpa using r'.get e
theorem RV.int_inv {h : Heap} {v : Value} {i : Int} (r : RV h v (.int i)) : ∃ t, v = .int i t := by cases r; exact ⟨_, rfl⟩
theorem RV.str_inv {h : Heap} {v : Value} {i : Str} (r : RV h v (.str i)) : ∃ t, v = .str i t := by cases r; exact ⟨_, rfl⟩
theorem RV.bool_inv {h : Heap} {v : Value} {i : Bool} (r : RV h v (.bool i)) : v = .bool i := by cases r; rfl
theorem RV.none_inv {h : Heap} {v : Value} (r : RV h v .none) : v = .none := by cases r; rfl
theorem RV.tuple_inv {h : Heap} {v : Value} {ds : List D} (r : RV h v (.tuple ds)) : ∃ a vs, v = .ref a ∧ IsTup h a vs ∧ RVs h vs.toList ds := by
  cases r with
  | tup a b => exact ⟨_, _, rfl, a, b⟩
theorem RV.list_inv {h : Heap} {v : Value} {ds : List D} (r : RV h v (.list ds)) : ∃ a vs, v = .ref a ∧ h.IsList a vs ∧ RVs h vs.toList ds := by
  cases r with
  | lst a b => exact ⟨_, _, rfl, a, b⟩

/-! ## what stands at every heap of the run -/
structure Gd (K : Frag) (h : Heap) : Prop where
  x : K.In h
  lim : h.NoLimit
  g : ∃ mg, h.Ns mainGlobals mg
  b : ∃ mb, h.Ns builtinsNs mb ∧ ∀ x : Str, x ≠ "__name__" → mb x = bootBuiltins x
theorem Gd.kp {K : Frag} {h h' : Heap} (G : Gd K h) (k : Kp h h') : Gd K h' where
  x := G.x.keeps k
  lim := G.lim.keeps k
  g := let ⟨m, e⟩ := G.g; ⟨m, e.keeps k⟩
  b := let ⟨m, e, f⟩ := G.b; ⟨m, e.keeps k, f⟩

structure Rm (n : Nat) (A : Around) : Prop where
  hh : A.handled = none
  dep : A.depth + n < 900
  un : A.units + 8 * n + 200 < cLine

def LoadsTo (K : Frag) (f : Str) (v : Value) : Prop :=
  nsIn K mainGlobals f = some (some v) ∨ (nsIn K mainGlobals f = some none ∧ f ≠ "__name__" ∧ bootBuiltins f = some v)

def lk (x : Str) : Ev → Option D
  | [] => none
  | (y, d) :: r => if y = x then some d else lk x r
def up (x : Str) (d : D) : Ev → Ev
  | [] => [(x, d)]
  | (y, e) :: r => if y = x then (y, d) :: r else (y, e) :: up x d r
theorem lk_up (x : Str) (d : D) : ∀ (ρ : Ev) (y : Str), lk y (up x d ρ) = if x = y then some d else lk y ρ
  | [], y => by simp [up, lk]
  | (z, e) :: r, y => by
    by_cases h : z = x
    · subst h; by_cases h2 : z = y <;> simp [up, lk, h2]
    · by_cases h2 : x = y
      · subst h2; simp [up, lk, h, lk_up x d r]
      · by_cases h3 : z = y
        · subst h3; simp [up, lk, h, h2]
        · simp [up, lk, h, h2, h3, lk_up x d r]

structure Inn (K : Frag) (h₀ : Heap) (L : Addr) (sc : Scope) (ρ : Ev) (s : Shared) : Prop where
  fr : ∃ m, Fr h₀ L s.heap m ∧ ∀ x d, lk x ρ = some d → ∃ v, m x = some v ∧ RV s.heap v d
  gd : Gd K h₀
  loc : ∀ x d, lk x ρ = some d → sc.names.lookup x = some .local
  kind : sc.kind = .function

theorem fr_kp {h₀ h h' : Heap} {L : Addr} {m : Str → Option Value} (F : Fr h₀ L h m) (k : Kp h h') : Fr h₀ L h' m := F.grownK k
theorem Inn.ext {K : Frag} {h₀ : Heap} {L : Addr} {sc : Scope} {ρ : Ev} {s s' : Shared} (I : Inn K h₀ L sc ρ s) (e : Ext s s') : Inn K h₀ L sc ρ s' where
  fr := let ⟨m, F, r⟩ := I.fr; ⟨m, fr_kp F e.2, fun x d h => let ⟨v, a, b⟩ := r x d h; ⟨v, a, RV.kp e.2 b⟩⟩
  gd := I.gd
  loc := I.loc
  kind := I.kind
theorem Inn.here {K : Frag} {h₀ : Heap} {L : Addr} {sc : Scope} {ρ : Ev} {s : Shared} (I : Inn K h₀ L sc ρ s) : Gd K s.heap := let ⟨_, F, _⟩ := I.fr; I.gd.kp F.keep
end Mine

end
section
open PySem PySem.W PyProof.Rows PySem.Calls
namespace Mine

inductive Fl where
  | next (ρ : Ev)
  | ret (d : D)
  | brk (ρ : Ev)
  | cont (ρ : Ev)

section
variable (prog : Program) (w : World) (K : Frag)

def SemE (n : Nat) (sc : Scope) (e : PySem.Expr) (ρ : Ev) (k : D → Prop) : Prop :=
  ∀ (A : Around) (s : Shared) (h₀ : Heap) (L : Addr) (nm : Str) (fa : Addr) (cd : Value) (Q : Value → Shared → Prop), Rm n A → Inn K h₀ L sc ρ s →
    (∀ v s' d, k d → RV s'.heap v d → Ext s s' → Q v s') → wpAny (model prog w) A (eval e (envOf nm sc L fa cd)) Q (fun _ _ => False) s
def SemT (n : Nat) (sc : Scope) (e : PySem.Expr) (ρ : Ev) (k : Bool → Prop) : Prop :=
  ∀ (A : Around) (s : Shared) (h₀ : Heap) (L : Addr) (nm : Str) (fa : Addr) (cd : Value) (Q : Bool → Shared → Prop), Rm n A → Inn K h₀ L sc ρ s →
    (∀ b s', k b → Ext s s' → Q b s') → wpAny (model prog w) A (isTrue e (envOf nm sc L fa cd) (eval e (envOf nm sc L fa cd))) Q (fun _ _ => False) s
def SemEs (n : Nat) (sc : Scope) (es : List PySem.Expr) (ρ : Ev) (k : List D → Prop) : Prop :=
  ∀ (A : Around) (s : Shared) (h₀ : Heap) (L : Addr) (nm : Str) (fa : Addr) (cd : Value) (pos : Pos) (Q : List Value → Shared → Prop), Rm n A → Inn K h₀ L sc ρ s →
    (∀ vs s' ds, k ds → RVs s'.heap vs ds → Ext s s' → Q vs s') → wpAny (model prog w) A (spliced (backTo pos (starEach es (envOf nm sc L fa cd)))) Q (fun _ _ => False) s

def FlR (h₀ : Heap) (L : Addr) (sc : Scope) : Fl → Flow → Shared → Prop
  | .next ρ, .next, s => Inn K h₀ L sc ρ s
  | .ret d, .ret v, s => (∃ m, Fr h₀ L s.heap m) ∧ RV s.heap v d
  | .brk ρ, .brk, s => Inn K h₀ L sc ρ s
  | .cont ρ, .cont, s => Inn K h₀ L sc ρ s
  | _, _, _ => False
def Like (L : Addr) (s s' : Shared) : Prop := (∃ h t, s' = { s with heap := h, toks := t }) ∧ ∀ b o, b ≠ L → s.heap.get? b = some o → s'.heap.get? b = some o

def SemS (n : Nat) (sc : Scope) (st : Stmt) (ρ : Ev) (k : Fl → Prop) : Prop :=
  ∀ (A : Around) (s : Shared) (h₀ : Heap) (L : Addr) (nm : Str) (fa : Addr) (cd : Value) (Q : Flow → Shared → Prop), Rm n A → Inn K h₀ L sc ρ s →
    (∀ f s' o, k o → FlR K h₀ L sc o f s' → Like L s s' → Q f s') → wpAny (model prog w) A (exec st (envOf nm sc L fa cd)) Q (fun _ _ => False) s
def SemSs (n : Nat) (sc : Scope) (st : List Stmt) (ρ : Ev) (k : Fl → Prop) : Prop :=
  ∀ (A : Around) (s : Shared) (h₀ : Heap) (L : Addr) (nm : Str) (fa : Addr) (cd : Value) (Q : Flow → Shared → Prop), Rm n A → Inn K h₀ L sc ρ s →
    (∀ f s' o, k o → FlR K h₀ L sc o f s' → Like L s s' → Q f s') → wpAny (model prog w) A (execs st (envOf nm sc L fa cd)) Q (fun _ _ => False) s

def Callable : Value → Prop
  | .ref a => ∃ o fd, K.lookup a = some o ∧ o.data = .func fd
  | .builtin _ => True
  | .type _ => True
  | _ => False

/-- the global name f resolves to something that may be called -/
def Known (f : Str) : Prop := ∃ fv, LoadsTo K f fv ∧ Callable K fv
/-- a call of the global name f upon the data ds hands back a datum of k -/
def Spec (n : Nat) (f : Str) (ds : List D) (k : D → Prop) : Prop :=
  ∃ fv, LoadsTo K f fv ∧ Callable K fv ∧ ∀ (A : Around) (s : Shared) (vs : List Value) (Q : Value → Shared → Prop), Rm n A → Gd K s.heap → RVs s.heap vs ds →
    (∀ v s' d, k d → RV s'.heap v d → Ext s s' → Q v s') → wpAny (model prog w) A (call fv vs) Q (fun _ _ => False) s
/-- the global name x holds the datum d -/
def GV (x : Str) (d : D) : Prop := ∃ v, LoadsTo K x v ∧ ∀ h, K.In h → RV h v d
end

theorem LoadsTo.uniq {K : Frag} {f : Str} {a b : Value} (x : LoadsTo K f a) (y : LoadsTo K f b) : a = b := by
  rcases x with x | ⟨x1, _, x3⟩ <;> rcases y with y | ⟨y1, _, y3⟩
  · rw [x] at y; simpa using y
  · rw [x] at y1; simp at y1
  · rw [x1] at y; simp at y
  · rw [x3] at y3; simpa using y3
theorem Spec.mono {prog : Program} {w : World} {K : Frag} {n m : Nat} {f : Str} {ds : List D} {k k' : D → Prop} (S : Spec prog w K n f ds k) (h : ∀ d, k d → k' d) (hn : n ≤ m := by omega) : Spec prog w K m f ds k' := by
  obtain ⟨fv, a, b, c⟩ := S
  refine ⟨fv, a, b, fun A s vs Q R G r q => c A s vs Q ⟨R.hh, by have := R.dep; omega, by have := R.un; omega⟩ G r fun v s' d hk => q v s' d (h d hk)⟩

/-! ## pure operations, each handing on -/
def binv (op : Operator) (a b : D) (k : D → Prop) : Prop :=
  match op, a, b with
  | .Add, .int a, .int b => k (.int (a + b))
  | .Sub, .int a, .int b => k (.int (a - b))
  | .Mult, .int a, .int b => IntMulOk a b ∧ k (.int (a * b))
  | .FloorDiv, .int a, .int b => (b ≠ 0 ∧ b.natAbs.log2 < 9000) ∧ k (.int (a.fdiv b))
  | .Mod, .int a, .int b => (b ≠ 0) ∧ k (.int (a.fmod b))
  | .LShift, .int a, .int n => (0 ≤ n ∧ (Builtin.Int.intBits a : Int) + n ≤ 2 ^ 27) ∧ k (.int (a * 2 ^ n.toNat))
  | .RShift, .int a, .int n => 0 ≤ n ∧ k (.int (a.fdiv (2 ^ n.toNat)))
  | .BitAnd, .int a, .int b => k (.int (Builtin.bitAnd a b))
  | .BitXor, .int a, .int b => k (.int (Builtin.bitXor a b))
  | .Pow, .int a, .int n => (0 ≤ n ∧ n ≤ 1000000 ∧ a.natAbs < 2 ^ 64) ∧ k (.int (a ^ n.toNat))
  | _, _, _ => False
def augv (op : Operator) (a b : D) (k : D → Prop) : Prop :=
  match op, a, b with
  | .Add, .int a, .int b => k (.int (a + b))
  | .Sub, .int a, .int b => k (.int (a - b))
  | .Mult, .int a, .int b => IntMulOk a b ∧ k (.int (a * b))
  | .LShift, .int a, .int n => (0 ≤ n ∧ (Builtin.Int.intBits a : Int) + n ≤ 2 ^ 27) ∧ k (.int (a * 2 ^ n.toNat))
  | .RShift, .int a, .int n => 0 ≤ n ∧ k (.int (a.fdiv (2 ^ n.toNat)))
  | .BitXor, .int a, .int b => k (.int (Builtin.bitXor a b))
  | _, _, _ => False
def cmpv (op : CmpOp) (a b : D) (k : Bool → Prop) : Prop :=
  match op, a, b with
  | .Eq, .int a, .int b => k (decide (a = b))
  | .NotEq, .int a, .int b => k (decide (a ≠ b))
  | .Lt, .int a, .int b => k (decide (a < b))
  | .LtE, .int a, .int b => k (decide (a ≤ b))
  | .Gt, .int a, .int b => k (decide (b < a))
  | .GtE, .int a, .int b => k (decide (b ≤ a))
  | .Eq, .str a, .str b => k (decide (a = b))
  | .Eq, .tuple a, .tuple b => (PySem.SeqAt.shaped (.tuple a) = true ∧ PySem.SeqAt.shaped (.tuple b) = true ∧ nds a = true ∧ nds b = true) ∧ k (PyData.eqvAll a b)
  | .In, .str a, .str b => k (Txt.contains b a)
  | .In, a, .tuple xs => (PyData.canLayAll0 xs = true ∧ a.canLay0 = true ∧ a.depth ≤ 60 ∧ nds xs = true ∧ nd a = true) ∧ k (xs.any fun y => PyData.eqv y a)
  | _, _, _ => False
def trv (d : D) (k : Bool → Prop) : Prop :=
  match d with
  | .bool b => k b
  | .int i => k (decide (i ≠ 0))
  | _ => False
def unv (op : UnaryOp) (d : D) (k : D → Prop) : Prop :=
  match op, d with
  | .USub, .int i => k (.int (-i))
  | .Not, d => trv d fun b => k (.bool (!b))
  | _, _ => False
/-- a row of ints in a written table of the top -/
def TabRow (K : Frag) (a : Addr) (x : Str) (is : List Int) : Prop :=
  ∃ T : List (Str × KTD.Dat), (∀ h, K.In h → KTD.TextTab h a T) ∧ KTD.datumAt x T = some (.tup (is.map .int))
def subv (K : Frag) (o i : D) (k : D → Prop) : Prop :=
  match o, i with
  | .dict [(.int a, .none)], .str x => ∃ is, TabRow K a.toNat x is ∧ k (.tuple (is.map .int))
  | .tuple ds, .int i => (0 ≤ i ∧ i < ds.length ∧ ds.length < 1000) ∧ ∀ d, ds[i.toNat]? = some d → k d
  | _, _ => False
def br (c : Bool) (a b : Prop) : Prop := if c = true then a else b
def upk (x : Str) (d : D) : Ev → (Ev → Prop) → Prop
  | [], c => c [(x, d)]
  | (y, e) :: r, c => if y = x then c ((y, d) :: r) else upk x d r fun r' => c ((y, e) :: r')
theorem upk_eq (x : Str) (d : D) : ∀ (ρ : Ev) (c : Ev → Prop), upk x d ρ c ↔ c (up x d ρ)
  | [], c => Iff.rfl
  | (y, e) :: r, c => by
    by_cases h : y = x
    · simp [upk, up, h]
    · simp [upk, up, h, upk_eq x d r]
def isG (sc : Scope) (x : Str) : Bool := (match sc.names.lookup x with | some .globalImplicit => true | _ => false) && !(x == ("__debug__" : Str))
def isL (sc : Scope) (x : Str) : Bool := (match sc.names.lookup x with | some .local => true | _ => false)
def vg (x : Str) (k : D → Prop) : Ev → Prop
  | [] => False
  | (y, d) :: r => if y = x then k d else vg x k r
def vl (sc : Scope) (G : Ev) (x : Str) (k : D → Prop) : Ev → Prop
  | [] => isG sc x = true ∧ vg x k G
  | (y, d) :: r => if y = x then k d else vl sc G x k r
theorem vg_inv {x : Str} {k : D → Prop} : ∀ {G : Ev}, vg x k G → ∃ d, lk x G = some d ∧ k d
  | [], h => h.elim
  | (y, d) :: r, h => by
    by_cases e : y = x
    · rw [vg, if_pos e] at h; exact ⟨d, by simp [lk, e], h⟩
    · rw [vg, if_neg e] at h; obtain ⟨d', a, b⟩ := vg_inv h; exact ⟨d', by simp [lk, e, a], b⟩
theorem vl_inv {sc : Scope} {G : Ev} {x : Str} {k : D → Prop} : ∀ {ρ : Ev}, vl sc G x k ρ → (∃ d, lk x ρ = some d ∧ k d) ∨ (lk x ρ = none ∧ isG sc x = true ∧ vg x k G)
  | [], h => .inr ⟨rfl, h⟩
  | (y, d) :: r, h => by
    by_cases e : y = x
    · rw [vl, if_pos e] at h; exact .inl ⟨d, by simp [lk, e], h⟩
    · rw [vl, if_neg e] at h
      rcases vl_inv h with ⟨d', a, b⟩ | ⟨a, b⟩
      · exact .inl ⟨d', by simp [lk, e, a], b⟩
      · exact .inr ⟨by simp [lk, e, a], b⟩
def vl0 (x : Str) : Ev → (D → Prop) → Prop
  | [], _ => False
  | (y, d) :: r, k => if y = x then k d else vl0 x r k
theorem vl0_inv {x : Str} {k : D → Prop} : ∀ {ρ : Ev}, vl0 x ρ k → ∃ d, lk x ρ = some d ∧ k d
  | [], h => h.elim
  | (y, d) :: r, h => by
    by_cases e : y = x
    · rw [vl0, if_pos e] at h; exact ⟨d, by simp [lk, e], h⟩
    · rw [vl0, if_neg e] at h; obtain ⟨d', a, b⟩ := vl0_inv h; exact ⟨d', by simp [lk, e, a], b⟩
def ncomp : PySem.Expr → Bool
  | .ListComp .. | .SetComp .. | .DictComp .. => false
  | _ => true
end Mine

end
section
open PySem PySem.W PyProof.Rows PySem.Calls
namespace Mine
def nstar : PySem.Expr → Bool
  | .Starred .. => false
  | _ => true
def nset : PySem.Expr → Bool
  | .Set .. => false
  | _ => true
def nslice : PySem.Expr → Bool
  | .Slice .. => false
  | _ => true
def ncall : PySem.Expr → Bool
  | .Call .. => false
  | _ => true

section
variable (prog : Program) (w : World) (K : Frag) (n : Nat) (sc : Scope) (G : Ev)
mutual
def wpe : PySem.Expr → Ev → (D → Prop) → Prop
  | .Constant c _ _, _, k => (match c with
    | .int i => k (.int i)
    | .str s => k (.str s)
    | .bool b => k (.bool b)
    | _ => False)
  | .Name x _, ρ, k => (x == ("__debug__" : Str)) = false ∧ vl sc G x k ρ
  | .BinOp l op r _, ρ, k => wpe l ρ fun a => wpe r ρ fun b => binv op a b k
  | .UnaryOp op x _, ρ, k => wpe x ρ fun a => unv op a k
  | .BoolOp op vs _, ρ, k => wpb op vs ρ k
  | .IfExp t b o _, ρ, k => wpt t ρ (wpe t ρ) fun c => br c (wpe b ρ k) (wpe o ρ k)
  | .Compare l ops cs _, ρ, k => wpe l ρ fun a => wpc ops cs a ρ k
  | .Call (.Name f _) args [] _, ρ, k => (args.all nstar = true ∧ args.isEmpty = false ∧ isG sc f = true ∧ Known K f) ∧ wpes args ρ fun ds => Spec prog w K n f ds k
  | .Call (.Attribute o m apos) [] [] pos, ρ, k => (m = "bit_length" ∧ ncall o = true ∧ (apos.endLine == pos.line) = true) ∧ wpe o ρ fun a => (match a with
    | .int i => k (.int (Builtin.Int.intBits i))
    | _ => False)
  | .Subscript v i _, ρ, k => nslice i = true ∧ wpe v ρ fun a => wpe i ρ fun b => subv K a b k
  | .Tuple es _ _, ρ, k => (es.all nstar = true) ∧ wpes es ρ fun ds => ds.length < 1000 ∧ k (.tuple ds)
  | e, ρ, k => SemE prog w K n sc e ρ k
def wpt : PySem.Expr → Ev → ((D → Prop) → Prop) → (Bool → Prop) → Prop
  | .UnaryOp .Not x _, ρ, _, k => wpt x ρ (wpe x ρ) fun b => k (!b)
  | .BoolOp op vs _, ρ, _, k => wpa op vs ρ k
  | .IfExp t b o _, ρ, _, k => wpt t ρ (wpe t ρ) fun c => br c (wpt b ρ (wpe b ρ) k) (wpt o ρ (wpe o ρ) k)
  | .Compare l ops cs _, ρ, _, k => wpe l ρ fun a => wpd ops cs a ρ k
  | _, _, whole, k => whole fun d => trv d k
def wpes : List PySem.Expr → Ev → (List D → Prop) → Prop
  | [], _, k => k []
  | e :: r, ρ, k => wpe e ρ fun d => wpes r ρ fun ds => k (d :: ds)
def wpb (op : PySem.BoolOp) : List PySem.Expr → Ev → (D → Prop) → Prop
  | [], _, _ => False
  | [x], ρ, k => wpe x ρ k
  | x :: y :: r, ρ, k => wpe x ρ fun a => trv a fun c => (match op with
    | .And => br c (wpb op (y :: r) ρ k) (k a)
    | .Or => br c (k a) (wpb op (y :: r) ρ k))
def wpa (op : PySem.BoolOp) : List PySem.Expr → Ev → (Bool → Prop) → Prop
  | [], _, k => k (op == .And)
  | x :: r, ρ, k => wpt x ρ (wpe x ρ) fun c => (match op with
    | .And => br c (wpa op r ρ k) (k false)
    | .Or => br c (k true) (wpa op r ρ k))
def wpc : List PySem.CmpOp → List PySem.Expr → D → Ev → (D → Prop) → Prop
  | [op], [r], a, ρ, k => nset r = true ∧ wpe r ρ fun b => cmpv op a b fun c => k (.bool c)
  | op :: op' :: ops, r :: r' :: rs, a, ρ, k => wpe r ρ fun b => cmpv op a b fun c => br c (wpc (op' :: ops) (r' :: rs) b ρ k) (k (.bool c))
  | _, _, _, _, _ => False
def wpd : List PySem.CmpOp → List PySem.Expr → D → Ev → (Bool → Prop) → Prop
  | [op], [r], a, ρ, k => nset r = true ∧ wpe r ρ fun b => cmpv op a b k
  | op :: op' :: ops, r :: r' :: rs, a, ρ, k => wpe r ρ fun b => cmpv op a b fun c => br c (wpd (op' :: ops) (r' :: rs) b ρ k) (k false)
  | _, _, _, _, _ => False
end

def nameOf : PySem.Expr → Option (Str × Pos)
  | .Name x p => some (x, p)
  | _ => none
/-- a tuple of targets: a display of two is stored in turned order, any other value is unpacked -/
def okSwap (sc : Scope) (ts : List PySem.Expr) : PySem.Expr → Bool
  | .Tuple vs _ _ => (!(ts.length == 2 || ts.length == 3)) || (match ts, vs with
    | [.Name x p, .Name y q], [a, b] => nstar a && nstar b && isL sc x && isL sc y && q.line == p.line && !(x == y) && !([a, b].all (foldedForSure 8)) && !([a, b].all (constantsAlone 8))
    | _, _ => false)
  | _ => true
/-- targets that are names, in their order -/
def asg : List PySem.Expr → List D → Ev → (Ev → Prop) → Prop
  | [], [], ρ, c => c ρ
  | .Name x _ :: ts, d :: ds, ρ, c => isL sc x = true ∧ upk x d ρ fun ρ' => asg ts ds ρ' c
  | _, _, _, _ => False

mutual
def wp1 : Stmt → Ev → (Fl → Prop) → Prop
  | .Pass _, ρ, k => k (.next ρ)
  | .Break _, ρ, k => k (.brk ρ)
  | .Continue _, ρ, k => k (.cont ρ)
  | .Return (some e) _, ρ, k => wpe prog w K n sc G e ρ fun d => k (.ret d)
  | .Assign [.Name x _] e _, ρ, k => (ncomp e = true ∧ isL sc x = true) ∧ wpe prog w K n sc G e ρ fun d => upk x d ρ fun ρ' => k (.next ρ')
  | .Assign [.Tuple ts _ _] e _, ρ, k => (ncomp e = true ∧ okSwap sc ts e = true) ∧ wpe prog w K n sc G e ρ fun d => (match d with
    | .tuple ds => asg sc ts ds ρ fun ρ' => k (.next ρ')
    | _ => False)
  | .AugAssign (.Name x _) op e _, ρ, k => (isL sc x = true) ∧ vl0 x ρ fun a => wpe prog w K n sc G e ρ fun b => augv op a b fun d => upk x d ρ fun ρ' => k (.next ρ')
  | .If t b o _, ρ, k => wpt prog w K n sc G t ρ (wpe prog w K n sc G t ρ) fun c => br c (wps b ρ k) (wps o ρ k)
  | .Assert t none _, ρ, k => wpt prog w K n sc G t ρ (wpe prog w K n sc G t ρ) fun c => c = true ∧ k (.next ρ)
  | .While t b [] _, ρ, k => ∃ I : Nat → Ev → Prop, (∃ m, I m ρ) ∧ ∀ m ρ', I m ρ' → wpt prog w K n sc G t ρ' (wpe prog w K n sc G t ρ') fun c =>
      br c (wps b ρ' fun o => (match o with
        | .next ρ'' => ∃ m', m' < m ∧ I m' ρ''
        | .cont ρ'' => ∃ m', m' < m ∧ I m' ρ''
        | .brk ρ'' => k (.next ρ'')
        | .ret d => k (.ret d))) (k (.next ρ'))
  | st, ρ, k => SemS prog w K n sc st ρ k
def wps : List Stmt → Ev → (Fl → Prop) → Prop
  | [], ρ, k => k (.next ρ)
  | s :: r, ρ, k => wp1 s ρ fun o => (match o with
    | .next ρ' => wps r ρ' k
    | o => k o)
end
end
end Mine

end
section
open PySem PySem.W PyProof.Rows PySem.Calls
namespace Mine
section
variable {prog : Program} {w : World} {K : Frag} {n : Nat} {sc : Scope} {G : Ev}
variable {A : Around} {E : Value → Shared → Prop} {s : Shared} {h₀ : Heap} {L fa : Addr} {nm : Str} {cd : Value} {ρ : Ev}

theorem isG_inv {x : Str} (h : isG sc x = true) : sc.names.lookup x = some .globalImplicit ∧ (x == ("__debug__" : Str)) = false := by
  unfold isG at h
  obtain ⟨a, b⟩ := Bool.and_eq_true_iff.mp h
  refine ⟨?_, by simpa using b⟩
  split at a
  · assumption
  · cases a
theorem isL_inv {x : Str} (h : isL sc x = true) : sc.names.lookup x = some .local := by
  unfold isL at h
  split at h
  · assumption
  · cases h

theorem load_global {f : Str} {v : Value} {Q : Value → Shared → Prop} {p : Pos} (g : Gd K s.heap) (l : LoadsTo K f v) (hk : sc.kind = .function) (hx : isG sc f = true) (h : Q v s) :
    wpAny (model prog w) A (eval (.Name f p) (envOf nm sc L fa cd)) Q E s := by
  obtain ⟨hx, hd⟩ := isG_inv hx
  obtain ⟨mg, hg⟩ := g.g
  rcases l with l | ⟨l1, l2, l3⟩
  · exact Name_function_global hk hx (loadGlobal_global (env := envOf nm sc L fa cd) hg (mg_of g.x hg l) h) hd
  · obtain ⟨mb, hb, hbb⟩ := g.b
    exact Name_function_global hk hx (loadGlobal_builtin (env := envOf nm sc L fa cd) hg (mg_none_of g.x hg l1) hb ((hbb f l2).trans l3) h) hd

theorem load_local {x : Str} {d : D} {Q : Value → Shared → Prop} {p : Pos} (I : Inn K h₀ L sc ρ s) (hl : lk x ρ = some d) (hd : (x == ("__debug__" : Str)) = false) (h : ∀ v, RV s.heap v d → Q v s) :
    wpAny (model prog w) A (eval (.Name x p) (envOf nm sc L fa cd)) Q E s := by
  obtain ⟨m, F, r⟩ := I.fr
  obtain ⟨v, hm, rv⟩ := r x d hl
  exact ld F hm (h v rv) I.kind (I.loc x d hl) hd
theorem load_localn {x : Str} {d : D} {Q : Value → Shared → Prop} (I : Inn K h₀ L sc ρ s) (hl : lk x ρ = some d) (h : ∀ v, RV s.heap v d → Q v s) :
    wpAny (model prog w) A (loadName (envOf nm sc L fa cd) x) Q E s := by
  obtain ⟨m, F, r⟩ := I.fr
  obtain ⟨v, hm, rv⟩ := r x d hl
  exact ldn F hm (h v rv) I.kind (I.loc x d hl)

theorem ns_dict {h : Heap} {L : Addr} {m : Str → Option Value} (N : h.Ns L m) : ∀ o, h.get? L = some o → ∃ es n, o.data = .dict es n := by
  obtain ⟨o, es, ep, ho, hd, _⟩ := N
  intro o' e
  rw [ho] at e; cases e
  exact ⟨es, ep, hd⟩

theorem Inn.set {h' : Heap} {x : Str} {v : Value} {d : D} {t : Nat} {m : Str → Option Value} (I : Inn K h₀ L sc ρ s) (F : Fr h₀ L s.heap m) (r : ∀ x d, lk x ρ = some d → ∃ v, m x = some v ∧ RV s.heap v d)
    (hx : sc.names.lookup x = some .local) (rv : RV s.heap v d) (hn : h'.Ns L (fun y => if y = x then some v else m y)) (hs : Heap.SameBut L s.heap h') : Inn K h₀ L sc (up x d ρ) { s with heap := h', toks := t } where
  fr := by
    refine ⟨_, F.set hn hs, fun y e h => ?_⟩
    rw [lk_up] at h
    by_cases q : x = y
    · subst q
      simp at h; subst h
      exact ⟨v, by simp, RV.same (ns_dict F.ns) hs rv⟩
    · rw [if_neg q] at h
      obtain ⟨v', a, b⟩ := r y e h
      exact ⟨v', by simp [Ne.symm q, a], RV.same (ns_dict F.ns) hs b⟩
  gd := I.gd
  loc := fun y e h => by
    rw [lk_up] at h
    by_cases q : x = y
    · subst q; exact hx
    · rw [if_neg q] at h; exact I.loc y e h
  kind := I.kind

/-- a store into a local name -/
theorem store_local {x : Str} {v : Value} {d : D} {Q : Unit → Shared → Prop} (I : Inn K h₀ L sc ρ s) (hx : sc.names.lookup x = some .local) (rv : RV s.heap v d)
    (h : ∀ s', Inn K h₀ L sc (up x d ρ) s' → Like L s s' → (∀ v d, RV s.heap v d → RV s'.heap v d) → Q () s') :
    wpAny (model prog w) A (storeName (envOf nm sc L fa cd) x v) Q E s := by
  obtain ⟨m, F, r⟩ := I.fr
  refine wpAny_storeName_local hx F.ns (fun h' hn hs => ?_) (by show (sc.kind == .class || (sc.kind == .module && L != mainGlobals)) = false; rw [I.kind]; rfl)
  exact h _ (I.set F r hx rv hn hs) ⟨⟨h', _, rfl⟩, fun b o hb e => (hs.2 b hb).trans e⟩ fun v d => RV.same (ns_dict F.ns) hs
end
end Mine

end
section
open PySem PySem.W PyProof.Rows PySem.Calls
namespace Mine
section
variable {prog : Program} {w : World} {K : Frag} {n : Nat} {sc : Scope} {G : Ev}
variable {A : Around} {E : Value → Shared → Prop} {s : Shared} {h₀ : Heap} {L fa : Addr} {nm : Str} {cd : Value} {ρ : Ev}

theorem ext_tok (s : Shared) (t : Nat) : Ext s { s with toks := t } := ⟨⟨s.heap, t, rfl⟩, Kp.refl _⟩

theorem binv_sound {op : Operator} {a b : Value} {da db : D} {k : D → Prop} {Q : Value → Shared → Prop} (hv : binv op da db k) (ra : RV s.heap a da) (rb : RV s.heap b db)
    (h : ∀ v s' d, k d → RV s'.heap v d → Ext s s' → Q v s') : wpAny (model prog w) A (binaryOp op a b) Q E s := by
  unfold binv at hv
  split at hv
  case h_1 => obtain ⟨t, rfl⟩ := ra.int_inv; obtain ⟨u, rfl⟩ := rb.int_inv; exact add_int (h _ _ _ hv (.int _ _) (ext_tok _ _))
  case h_2 => obtain ⟨t, rfl⟩ := ra.int_inv; obtain ⟨u, rfl⟩ := rb.int_inv; exact sub_int (h _ _ _ hv (.int _ _) (ext_tok _ _))
  case h_3 => obtain ⟨t, rfl⟩ := ra.int_inv; obtain ⟨u, rfl⟩ := rb.int_inv; exact mul_int (h _ _ _ hv.2 (.int _ _) (ext_tok _ _)) hv.1
  case h_4 => obtain ⟨t, rfl⟩ := ra.int_inv; obtain ⟨u, rfl⟩ := rb.int_inv; exact floordiv_int hv.1.1 (h _ _ _ hv.2 (.int _ _) (ext_tok _ _)) (.inl (PyProof.noPylong_of_log2 hv.1.2))
  case h_5 => obtain ⟨t, rfl⟩ := ra.int_inv; obtain ⟨u, rfl⟩ := rb.int_inv; exact mod_int hv.1 (h _ _ _ hv.2 (.int _ _) (ext_tok _ _))
  case h_6 => obtain ⟨t, rfl⟩ := ra.int_inv; obtain ⟨u, rfl⟩ := rb.int_inv; exact lshift_int hv.1.1 hv.1.2 (h _ _ _ hv.2 (.int _ _) (ext_tok _ _))
  case h_7 => obtain ⟨t, rfl⟩ := ra.int_inv; obtain ⟨u, rfl⟩ := rb.int_inv; exact rshift_int hv.1 (h _ _ _ hv.2 (.int _ _) (ext_tok _ _))
  case h_8 => obtain ⟨t, rfl⟩ := ra.int_inv; obtain ⟨u, rfl⟩ := rb.int_inv; exact and_int (h _ _ _ hv (.int _ _) (ext_tok _ _))
  case h_9 => obtain ⟨t, rfl⟩ := ra.int_inv; obtain ⟨u, rfl⟩ := rb.int_inv; exact xor_int (h _ _ _ hv (.int _ _) (ext_tok _ _))
  case h_10 => obtain ⟨t, rfl⟩ := ra.int_inv; obtain ⟨u, rfl⟩ := rb.int_inv; exact pow_int_small hv.1.1 hv.1.2.1 hv.1.2.2 (h _ _ _ hv.2 (.int _ _) (ext_tok _ _))
  case h_11 => exact hv.elim

theorem augv_sound {op : Operator} {a b : Value} {da db : D} {k : D → Prop} {Q : Value → Shared → Prop} (hv : augv op da db k) (ra : RV s.heap a da) (rb : RV s.heap b db)
    (h : ∀ v s' d, k d → RV s'.heap v d → Ext s s' → Q v s') : wpAny (model prog w) A (inplaceOp op a b) Q E s := by
  unfold augv at hv
  split at hv
  case h_1 => obtain ⟨t, rfl⟩ := ra.int_inv; obtain ⟨u, rfl⟩ := rb.int_inv; exact P.iadd_int (h _ _ _ hv (.int _ _) (ext_tok _ _))
  case h_2 => obtain ⟨t, rfl⟩ := ra.int_inv; obtain ⟨u, rfl⟩ := rb.int_inv; exact P.isub_int (h _ _ _ hv (.int _ _) (ext_tok _ _))
  case h_3 => obtain ⟨t, rfl⟩ := ra.int_inv; obtain ⟨u, rfl⟩ := rb.int_inv; exact P.imul_int (h _ _ _ hv.2 (.int _ _) (ext_tok _ _)) hv.1
  case h_4 => obtain ⟨t, rfl⟩ := ra.int_inv; obtain ⟨u, rfl⟩ := rb.int_inv; exact ilshift_int hv.1.1 hv.1.2 (h _ _ _ hv.2 (.int _ _) (ext_tok _ _))
  case h_5 => obtain ⟨t, rfl⟩ := ra.int_inv; obtain ⟨u, rfl⟩ := rb.int_inv; exact irshift_int hv.1 (h _ _ _ hv.2 (.int _ _) (ext_tok _ _))
  case h_6 => obtain ⟨t, rfl⟩ := ra.int_inv; obtain ⟨u, rfl⟩ := rb.int_inv; exact ixor_int (h _ _ _ hv (.int _ _) (ext_tok _ _))
  case h_7 => exact hv.elim

theorem str_eq_iff (x y : Str) : (x.cps.toList == y.cps.toList) = decide (x = y) := by
  obtain ⟨⟨x⟩⟩ := x; obtain ⟨⟨y⟩⟩ := y
  by_cases h : x = y
  · subst h; simp
  · have : ¬ (({ cps := { toList := x } } : Str) = { cps := { toList := y } }) := fun e => h (by injection e with e; injection e)
    simp [h, this]

theorem ibeq (x y : Int) : (x == y) = decide (x = y) := by by_cases h : x = y <;> simp [h]
theorem ibne (x y : Int) : (x != y) = decide (x ≠ y) := by by_cases h : x = y <;> simp [h]
theorem cmpv_sound {op : CmpOp} {a b : Value} {da db : D} {k : Bool → Prop} {Q : Value → Shared → Prop} (hv : cmpv op da db k) (ra : RV s.heap a da) (rb : RV s.heap b db) (R : Rm n A)
    (h : ∀ c, k c → Q (.bool c) s) : wpAny (model prog w) A (compareOp op a b) Q E s := by
  have hu : A.units + 64 < cLine := by have := R.un; omega
  unfold cmpv at hv
  split at hv
  case h_1 => obtain ⟨t, rfl⟩ := ra.int_inv; obtain ⟨u, rfl⟩ := rb.int_inv; exact P.eq_int (by rw [ibeq]; exact h _ hv)
  case h_2 => obtain ⟨t, rfl⟩ := ra.int_inv; obtain ⟨u, rfl⟩ := rb.int_inv; exact P.ne_int (by rw [ibne]; exact h _ hv)
  case h_3 => obtain ⟨t, rfl⟩ := ra.int_inv; obtain ⟨u, rfl⟩ := rb.int_inv; exact P.lt_int (h _ hv)
  case h_4 => obtain ⟨t, rfl⟩ := ra.int_inv; obtain ⟨u, rfl⟩ := rb.int_inv; exact P.le_int (h _ hv)
  case h_5 => obtain ⟨t, rfl⟩ := ra.int_inv; obtain ⟨u, rfl⟩ := rb.int_inv; exact P.gt_int (h _ hv)
  case h_6 => obtain ⟨t, rfl⟩ := ra.int_inv; obtain ⟨u, rfl⟩ := rb.int_inv; exact P.ge_int (h _ hv)
  case h_7 => obtain ⟨t, rfl⟩ := ra.str_inv; obtain ⟨u, rfl⟩ := rb.str_inv; exact P.eq_str (by rw [str_eq_iff]; exact h _ hv)
  case h_8 =>
    obtain ⟨as, ra⟩ := ra.reads (by simpa [nd] using hv.1.2.2.1)
    obtain ⟨bs, rb⟩ := rb.reads (by simpa [nd] using hv.1.2.2.2)
    exact eq_dataH ra rb hv.1.1 hv.1.2.1 hu (h _ hv.2)
  case h_9 => obtain ⟨t, rfl⟩ := ra.str_inv; obtain ⟨u, rfl⟩ := rb.str_inv; exact SB.contains (h _ hv)
  case h_10 xs =>
    obtain ⟨as, ra⟩ := ra.reads hv.1.2.2.2.2
    obtain ⟨bs, rb⟩ := rb.reads (by simpa [nd] using hv.1.2.2.2.1)
    exact PySem.SeqAt.in_tuple_reads rb ra hv.1.1 hv.1.2.1 (by have := Nat.min_le_right (PyData.depthAll xs) da.depth; have := hv.1.2.2.1; omega) (h _ hv.2)
  case h_11 => exact hv.elim

theorem trv_sound {a : Value} {da : D} {k : Bool → Prop} {Q : Bool → Shared → Prop} (hv : trv da k) (ra : RV s.heap a da)
    (h : ∀ c, k c → Q c s) : wpAny (model prog w) A (truthy a) Q E s := by
  unfold trv at hv
  split at hv
  · obtain rfl := ra.bool_inv
    exact wpAny_truthy_bool (h _ hv)
  · obtain ⟨t, rfl⟩ := ra.int_inv
    exact P.truthy_int (by rw [ibne]; exact h _ hv)
  · exact hv.elim

theorem unv_sound {op : UnaryOp} {a : Value} {da : D} {k : D → Prop} {Q : Value → Shared → Prop} (hv : unv op da k) (ra : RV s.heap a da)
    (h : ∀ v s' d, k d → RV s'.heap v d → Ext s s' → Q v s') : wpAny (model prog w) A (unaryOp op a) Q E s := by
  unfold unv at hv
  split at hv
  · obtain ⟨t, rfl⟩ := ra.int_inv
    exact P.neg_int (h _ _ _ hv (.int _ _) (ext_tok _ _))
  · unfold unaryOp
    refine wpAny_holding ?_
    simp only [beq_self_eq_true, if_true]
    exact wpAny_bind (trv_sound hv ra fun c hc => wpAny_pure (h _ _ _ hc (.bool _) (Ext.refl _)))
  · exact hv.elim

theorem rvs_flats {h : Heap} : ∀ {is : List Int} {vs : List Value}, KTD.Flats vs (is.map .int) → RVs h vs (is.map .int)
  | [], vs, f => by cases f; exact .nil
  | i :: r, vs, f => by
    cases f with
    | cons a b =>
      obtain ⟨t, rfl⟩ := PyProof.V.Flat.int_inv a
      exact .cons (.int _ _) (rvs_flats b)
theorem subv_sound {o i : Value} {value slice : PySem.Expr} {d₁ d₂ : D} {k : D → Prop} {Q : Value → Shared → Prop} (hv : subv K d₁ d₂ k) (ho : RV s.heap o d₁) (hi : RV s.heap i d₂) (hs : nslice slice = true) (X : K.In s.heap)
    (h : ∀ v s' d, k d → RV s'.heap v d → Ext s s' → Q v s') : wpAny (model prog w) A (subscriptTail value slice o i) Q E s := by
  unfold subv at hv
  split at hv
  · obtain ⟨is, ⟨T, hT, hd⟩, hv⟩ := hv
    cases ho
    obtain ⟨t, rfl⟩ := hi.str_inv
    have H : KTD.Here s.heap s.heap _ T := ⟨hT _ X, fun _ _ e => e⟩
    refine tail_any H.typeIs slot_dict_getitem.lookup ?_ (by cases slice <;> first | rfl | cases hs)
    unfold getItem
    refine wpAny_holding ?_
    refine wpAny_bind (wpAny_sequenceKey H.typeIs (by decide) ?_)
    refine wpAny_bind (wpAny_callSpecial?_slot (name := Str.ofString "__getitem__") H.typeIs slot_dict_getitem
      (wpAny_call_entry slot_dict_getitem H.typeIs entry_dict_getitem ?_ (args_dict_getitem _ _)))
    show wpAny _ _ (dictGet _ (.str _ t) >>= _) _ _ s
    refine wpAny_bind (KTD.dictGet_text H (fun d v ha hv' => wpAny_pure ⟨v, rfl, wpAny_pure ?_⟩) fun hn => ?_)
    · rw [hd] at ha; cases ha
      obtain ⟨a, vs, rfl, T', F⟩ := hv'
      exact h _ _ _ hv (.tup T' (by simpa using rvs_flats F)) (ext_tok _ _)
    · rw [hd] at hn; cases hn
  · obtain ⟨a, vs, rfl, T, R⟩ := ho.tuple_inv
    obtain ⟨t, rfl⟩ := hi.int_inv
    rename_i ds j
    obtain ⟨⟨h0, h1, h2⟩, hv⟩ := hv
    have hlen : vs.toList.length = ds.length := R.length
    have hj : j.toNat < ds.length := by omega
    obtain ⟨v, hv1, hv2⟩ := R.get (List.getElem?_eq_getElem hj)
    refine item_tupleT (l := vs.toList) (j := j.toNat) (x := v) (by simpa using T) (by omega) (by omega) ?_ hv1 (h _ _ _ (hv _ (List.getElem?_eq_getElem hj)) hv2 (Ext.refl _)) ?_
    · rw [hlen]; unfold seqIndex?; simp only [if_neg (show ¬ j < 0 by omega)]; simp [h0, h1]
    · cases slice <;> first | rfl | cases hs
  · exact hv.elim
end
end Mine

end
section
open PySem PySem.W PyProof.Rows PySem.Calls
namespace Mine
section
variable {prog : Program} {w : World} {K : Frag} {n : Nat} {sc : Scope} {G : Ev}
variable {A : Around} {E : Value → Shared → Prop} {s : Shared} {h₀ : Heap} {L fa : Addr} {nm : Str} {cd : Value} {ρ : Ev}

theorem starEach_cons {e : PySem.Expr} {rest : List PySem.Expr} {env : Env} (h : nstar e = true) : starEach (e :: rest) env = (false, eval e env) :: starEach rest env := by
  cases e <;> first | rfl | cases h
theorem backTo_plain {pos : Pos} {env : Env} : ∀ {es : List PySem.Expr}, es.all nstar = true → (backTo pos (starEach es env)).any (·.1) = false
  | [], _ => rfl
  | e :: r, h => by
    obtain ⟨h1, h2⟩ := Bool.and_eq_true_iff.mp (by simpa using h : (nstar e && r.all nstar) = true)
    rw [starEach_cons h1]
    show (false || (backTo pos (starEach r env)).any (·.1)) = false
    rw [backTo_plain h2]; rfl

theorem callWith_plain {pos : Pos} {fv : Value} {es : List PySem.Expr} {env : Env} {Q : Value → Shared → Prop} (hc : Callable K fv) (he : es.isEmpty = false) (hs : es.all nstar = true)
    (h : wpAny (model prog w) A (spliced (backTo pos (starEach es env))) (fun vs s₁ => K.In s₁.heap ∧ wpAny (model prog w) A (call fv vs) Q E s₁) E s) :
    wpAny (model prog w) A (callWith pos fv [] (backTo pos (starEach es env)) []) Q E s := by
  cases es with
  | nil => cases he
  | cons e r =>
    obtain ⟨h1, h2⟩ := Bool.and_eq_true_iff.mp (by simpa using hs : (nstar e && r.all nstar) = true)
    cases fv with
    | ref a =>
      obtain ⟨o, fd, ho, hd⟩ := hc
      exact callWith_def hd (wpAny_mono h (fun vs s₁ x => ⟨x.1 _ _ ho, x.2⟩) fun _ _ x => x) (starEach_cons h1)
    | builtin id => exact callWith_builtin1 (wpAny_mono h (fun vs s₁ x => x.2) fun _ _ x => x) (starEach_cons h1) (backTo_plain h2)
    | type T => exact PyProof.Rows.callWith_type1 (wpAny_mono h (fun vs s₁ x => x.2) fun _ _ x => x) (starEach_cons h1) (backTo_plain h2)
    | _ => exact hc.elim

theorem bit_sound {o : PySem.Expr} {m : Str} {apos pos : Pos} {k : D → Prop} (hm : m = "bit_length") (hc : ncall o = true) (hl : (apos.endLine == pos.line) = true)
    (h : SemE prog w K n sc o ρ fun a => (match a with | .int i => k (.int (Builtin.Int.intBits i)) | _ => False)) :
    SemE prog w K n sc (.Call (.Attribute o m apos) [] [] pos) ρ k := by
  subst hm
  intro A s h₀ L nm fa cd Q R I hq
  refine Call_method0 (by cases o <;> first | rfl | cases hc) hl (h A s h₀ L nm fa cd _ R I fun v s' d hk rv ex => ?_)
  cases d <;> first | exact (hk : False).elim | skip
  · obtain ⟨t, rfl⟩ := rv.int_inv
    exact ⟨"int", "int.bit_length", PySem.F.plainAttrs_int, slot_int_bit_length, type_int_bit_length, typeIs_int _ _ _, (fun a e => by cases e),
      PyProof.Rows.callWith_method0 (env := envOf nm sc L fa cd) (call_int_bit_length (hq _ _ _ hk (.int _ _) (ex.trans (ext_tok _ _))))⟩
end
end Mine

end
section
open PySem PySem.W PyProof.Rows PySem.Calls
namespace Mine
section
variable {prog : Program} {w : World} {K : Frag} {n : Nat} {sc : Scope} {G : Ev}
variable {A : Around} {E : Value → Shared → Prop} {s : Shared} {h₀ : Heap} {L fa : Addr} {nm : Str} {cd : Value} {ρ : Ev}

/-- the sound table of the global data -/
def GOk (K : Frag) (G : Ev) : Prop := ∀ x d, lk x G = some d → GV K x d

theorem name_sound {x : Str} {p : Pos} {k : D → Prop} (hG : GOk K G) (hd : (x == ("__debug__" : Str)) = false) (h : vl sc G x k ρ) : SemE prog w K n sc (.Name x p) ρ k := by
  intro A s h₀ L nm fa cd Q R I hq
  rcases vl_inv h with ⟨d, h1, h2⟩ | ⟨h1, h2, h3⟩
  · exact load_local I h1 hd fun v rv => hq _ _ _ h2 rv (Ext.refl _)
  · obtain ⟨d, h4, h5⟩ := vg_inv h3
    obtain ⟨v, h6, h7⟩ := hG _ _ h4
    exact load_global I.here h6 I.kind h2 (hq _ _ _ h5 (h7 _ I.here.x) (Ext.refl _))

theorem mono1 {α : Type} {M : Model} {t : Sem α} {Q Q' : α → Shared → Prop} (h : wpAny M A t Q E s) (hQ : ∀ a s', Q a s' → Q' a s') : wpAny M A t Q' E s := wpAny_mono h hQ fun _ _ x => x

theorem call_sound {f : Str} {np pos : Pos} {args : List PySem.Expr} {k : D → Prop} (h1 : args.all nstar = true) (h2 : args.isEmpty = false) (h3 : isG sc f = true) (h4 : Known K f)
    (h : SemEs prog w K n sc args ρ fun ds => Spec prog w K n f ds k) : SemE prog w K n sc (.Call (.Name f np) args [] pos) ρ k := by
  intro A s h₀ L nm fa cd Q R I hq
  obtain ⟨fv, l, c⟩ := h4
  refine Call_ (load_global I.here l I.kind h3 ?_)
  refine callWith_plain c h2 h1 (h A s h₀ L nm fa cd pos _ R I fun vs s' ds hk rv ex => ?_)
  obtain ⟨fv', l', _, c'⟩ := hk
  obtain rfl := l.uniq l'
  exact ⟨(I.ext ex).here.x, c' A s' vs Q R (I.ext ex).here rv fun v s'' d hk rv' ex' => hq _ _ _ hk rv' (ex.trans ex')⟩

theorem tuple_sound {es : List PySem.Expr} {x : Nat} {pos : Pos} {k : D → Prop}
    (h : SemEs prog w K n sc es ρ fun ds => ds.length < 1000 ∧ k (.tuple ds)) : SemE prog w K n sc (.Tuple es x pos) ρ k := by
  intro A s h₀ L nm fa cd Q R I hq
  refine PyProof.Rows.Tuple_ (h A s h₀ L nm fa cd pos _ R I fun vs s' ds hk rv ex => ?_)
  have hv : vs.length = ds.length := rv.length
  refine wpAny_newTuple ?_ (by rw [hv]; exact Nat.le_trans (Nat.le_of_lt hk.1) (by decide))
  have kp := Kp.push s'.heap { cls := .type "tuple", data := .seq vs.toArray }
  exact hq _ _ _ hk.2 (.tup (IsTup.new _ _) (by simpa using RVs.kp kp rv)) (ex.trans ⟨⟨_, _, rfl⟩, kp⟩)

theorem noset_marks {op : CmpOp} {r : PySem.Expr} (h : nset r = true) : behindInMarks op r = false := by
  cases r <;> first | rfl | cases h

theorem wpt_plain (e : PySem.Expr) (ρ : Ev) (k : Bool → Prop) (hS : SemE prog w K n sc e ρ fun d => trv d k)
    (he : ∀ env whole, isTrue e env whole = (do let v ← whole; standAt e.pos; holding [v] (truthy v))) : SemT prog w K n sc e ρ k := by
  intro A s h₀ L nm fa cd Q R I hq
  rw [he]
  refine wpAny_bind (hS A s h₀ L nm fa cd _ R I fun v s₁ d hk rv e₁ => ?_)
  exact wpAny_bind (wpAny_standAt (wpAny_holding (trv_sound hk rv fun c hc => hq _ _ hc e₁)))
theorem wpAny_release' {vs keep : List Value} {Q : Unit → Shared → Prop} (h : Q () s) : wpAny (model prog w) A (release vs keep) Q E s := fun Γ p hΓ => by rw [Sem.wp_release]; exact h
mutual
theorem wpe_sound (hG : GOk K G) : ∀ (e : PySem.Expr) (ρ : Ev) (k : D → Prop), wpe prog w K n sc G e ρ k → SemE prog w K n sc e ρ k
  | .Constant c x pos, ρ, k, h => by
    intro A s h₀ L nm fa cd Q R I hq
    cases c <;> first | exact (h : False).elim | skip
    · exact wpAny_pure (hq _ _ _ h (.bool _) (Ext.refl _))
    · exact wpAny_Constant_int (hq _ _ _ h (.int _ _) (ext_tok _ _))
    · exact Constant_str (hq _ _ _ h (.str _ _) (ext_tok _ _))
  | .Name x pos, ρ, k, h => name_sound hG h.1 h.2
  | .BinOp l op r pos, ρ, k, h => by
    intro A s h₀ L nm fa cd Q R I hq
    refine wpAny_BinOp (wpe_sound hG l ρ _ h A s h₀ L nm fa cd _ R I fun a s₁ da h₁ ra e₁ => ?_)
    refine wpe_sound hG r ρ _ h₁ A s₁ h₀ L nm fa cd _ R (I.ext e₁) fun b s₂ db h₂ rb e₂ => ?_
    exact binv_sound h₂ (RV.kp e₂.2 ra) rb fun v s₃ d hk rv e₃ => hq v s₃ d hk rv ((e₁.trans e₂).trans e₃)
  | .UnaryOp op x pos, ρ, k, h => by
    intro A s h₀ L nm fa cd Q R I hq
    refine wpAny_UnaryOp (wpe_sound hG x ρ _ h A s h₀ L nm fa cd _ R I fun a s₁ da h₁ ra e₁ => ?_)
    exact unv_sound h₁ ra fun v s₃ d hk rv e₃ => hq v s₃ d hk rv (e₁.trans e₃)
  | .BoolOp op vs pos, ρ, k, h => by
    intro A s h₀ L nm fa cd Q R I hq
    rw [arm_eval_BoolOp]
    exact wpb_sound hG op pos vs ρ k h A s h₀ L nm fa cd Q R I hq
  | .IfExp t b o pos, ρ, k, h => by
    intro A s h₀ L nm fa cd Q R I hq
    refine wpAny_IfExp (wpt_sound hG t ρ _ (fun k' h' => wpe_sound hG t ρ k' h') h A s h₀ L nm fa cd _ R I fun c s₁ h₁ e₁ => ?_)
    unfold br at h₁
    cases c with
    | true => exact wpe_sound hG b ρ k h₁ A s₁ h₀ L nm fa cd Q R (I.ext e₁) fun v s₃ d hk rv e₃ => hq v s₃ d hk rv (e₁.trans e₃)
    | false => exact wpe_sound hG o ρ k h₁ A s₁ h₀ L nm fa cd Q R (I.ext e₁) fun v s₃ d hk rv e₃ => hq v s₃ d hk rv (e₁.trans e₃)
  | .Compare l ops cs pos, ρ, k, h => by
    intro A s h₀ L nm fa cd Q R I hq
    rw [arm_eval_Compare]
    refine wpAny_bind (wpe_sound hG l ρ _ h A s h₀ L nm fa cd _ R I fun a s₁ da h₁ ra e₁ => ?_)
    exact wpc_sound hG pos ops cs a da ρ k h₁ A s₁ h₀ L nm fa cd Q R (I.ext e₁) ra fun v s₃ d hk rv e₃ => hq v s₃ d hk rv (e₁.trans e₃)
  | .Call (.Name f np) args [] pos, ρ, k, h => call_sound h.1.1 h.1.2.1 h.1.2.2.1 h.1.2.2.2 (wpes_sound hG args ρ _ h.1.1 h.2)
  | .Call (.Attribute o m apos) [] [] pos, ρ, k, h => bit_sound h.1.1 h.1.2.1 h.1.2.2 (wpe_sound hG o ρ _ h.2)
  | .Subscript v i pos, ρ, k, h => by
    intro A s h₀ L nm fa cd Q R I hq
    refine Subscript_ (wpe_sound hG v ρ _ h.2 A s h₀ L nm fa cd _ R I fun a s₁ da h₁ ra e₁ => ?_)
    refine wpe_sound hG i ρ _ h₁ A s₁ h₀ L nm fa cd _ R (I.ext e₁) fun b s₂ db h₂ rb e₂ => ?_
    exact subv_sound h₂ (RV.kp e₂.2 ra) rb h.1 ((I.ext (e₁.trans e₂)).here.x) fun v s₃ d hk rv e₃ => hq v s₃ d hk rv ((e₁.trans e₂).trans e₃)
  | .Tuple es x pos, ρ, k, h => tuple_sound (wpes_sound hG es ρ _ h.1 h.2)
  | .NamedExpr .., _, _, h => h
  | .Lambda .., _, _, h => h
  | .Dict .., _, _, h => h
  | .Set .., _, _, h => h
  | .ListComp .., _, _, h => h
  | .SetComp .., _, _, h => h
  | .DictComp .., _, _, h => h
  | .GeneratorExp .., _, _, h => h
  | .Await .., _, _, h => h
  | .Yield .., _, _, h => h
  | .YieldFrom .., _, _, h => h
  | .FormattedValue .., _, _, h => h
  | .JoinedStr .., _, _, h => h
  | .Attribute .., _, _, h => h
  | .Starred .., _, _, h => h
  | .List .., _, _, h => h
  | .Slice .., _, _, h => h
  | .Call (.Attribute ..) (_ :: _) [] _, _, _, h => h
  | .Call (.Attribute ..) [] (_ :: _) _, _, _, h => h
  | .Call (.Attribute ..) (_ :: _) (_ :: _) _, _, _, h => h
  | .Call (.Name ..) _ (_ :: _) _, _, _, h => h
  | .Call (.BoolOp ..) _ _ _, _, _, h => h
  | .Call (.NamedExpr ..) _ _ _, _, _, h => h
  | .Call (.BinOp ..) _ _ _, _, _, h => h
  | .Call (.UnaryOp ..) _ _ _, _, _, h => h
  | .Call (.Lambda ..) _ _ _, _, _, h => h
  | .Call (.IfExp ..) _ _ _, _, _, h => h
  | .Call (.Dict ..) _ _ _, _, _, h => h
  | .Call (.Set ..) _ _ _, _, _, h => h
  | .Call (.ListComp ..) _ _ _, _, _, h => h
  | .Call (.SetComp ..) _ _ _, _, _, h => h
  | .Call (.DictComp ..) _ _ _, _, _, h => h
  | .Call (.GeneratorExp ..) _ _ _, _, _, h => h
  | .Call (.Await ..) _ _ _, _, _, h => h
  | .Call (.Yield ..) _ _ _, _, _, h => h
  | .Call (.YieldFrom ..) _ _ _, _, _, h => h
  | .Call (.Compare ..) _ _ _, _, _, h => h
  | .Call (.Call ..) _ _ _, _, _, h => h
  | .Call (.FormattedValue ..) _ _ _, _, _, h => h
  | .Call (.JoinedStr ..) _ _ _, _, _, h => h
  | .Call (.Constant ..) _ _ _, _, _, h => h
  | .Call (.Subscript ..) _ _ _, _, _, h => h
  | .Call (.Starred ..) _ _ _, _, _, h => h
  | .Call (.List ..) _ _ _, _, _, h => h
  | .Call (.Tuple ..) _ _ _, _, _, h => h
  | .Call (.Slice ..) _ _ _, _, _, h => h
theorem wpt_sound (hG : GOk K G) : ∀ (e : PySem.Expr) (ρ : Ev) (k : Bool → Prop), (∀ k', wpe prog w K n sc G e ρ k' → SemE prog w K n sc e ρ k') → wpt prog w K n sc G e ρ (wpe prog w K n sc G e ρ) k → SemT prog w K n sc e ρ k
  | .UnaryOp op x pos, ρ, k, hw, h => by
    cases op <;> first | exact wpt_plain _ ρ k (hw _ h) (fun _ _ => rfl) | skip
    intro A s h₀ L nm fa cd Q R I hq
    exact wpAny_isTrue_Not (wpt_sound hG x ρ _ (fun k' h' => wpe_sound hG x ρ k' h') h A s h₀ L nm fa cd _ R I fun b s₁ hk e₁ => hq _ _ hk e₁)
  | .BoolOp op vs pos, ρ, k, hw, h => by
    intro A s h₀ L nm fa cd Q R I hq
    exact wpa_sound hG op vs ρ k h A s h₀ L nm fa cd Q R I hq
  | .IfExp t b o pos, ρ, k, hw, h => by
    intro A s h₀ L nm fa cd Q R I hq
    show wpAny _ _ (isTrue t (envOf nm sc L fa cd) (eval t (envOf nm sc L fa cd)) >>= fun c => if c = true then isTrue b (envOf nm sc L fa cd) (eval b (envOf nm sc L fa cd)) else isTrue o (envOf nm sc L fa cd) (eval o (envOf nm sc L fa cd))) _ _ _
    refine wpAny_bind (wpt_sound hG t ρ _ (fun k' h' => wpe_sound hG t ρ k' h') h A s h₀ L nm fa cd _ R I fun c s₁ h₁ e₁ => ?_)
    unfold br at h₁
    cases c with
    | true => exact wpt_sound hG b ρ k (fun k' h' => wpe_sound hG b ρ k' h') h₁ A s₁ h₀ L nm fa cd Q R (I.ext e₁) fun v s₃ hk e₃ => hq v s₃ hk (e₁.trans e₃)
    | false => exact wpt_sound hG o ρ k (fun k' h' => wpe_sound hG o ρ k' h') h₁ A s₁ h₀ L nm fa cd Q R (I.ext e₁) fun v s₃ hk e₃ => hq v s₃ hk (e₁.trans e₃)
  | .Compare l ops cs pos, ρ, k, hw, h => by
    intro A s h₀ L nm fa cd Q R I hq
    show wpAny _ _ (eval l (envOf nm sc L fa cd) >>= fun a => testChain pos a ops (markedEach ops cs (evalEach cs (envOf nm sc L fa cd)))) _ _ _
    refine wpAny_bind (wpe_sound hG l ρ _ h A s h₀ L nm fa cd _ R I fun a s₁ da h₁ ra e₁ => ?_)
    exact wpd_sound hG pos ops cs a da ρ k h₁ A s₁ h₀ L nm fa cd Q R (I.ext e₁) ra fun v s₃ hk e₃ => hq v s₃ hk (e₁.trans e₃)
  | .Constant .., ρ, k, hw, h => wpt_plain _ ρ k (hw _ h) (fun _ _ => rfl)
  | .Name .., ρ, k, hw, h => wpt_plain _ ρ k (hw _ h) (fun _ _ => rfl)
  | .BinOp .., ρ, k, hw, h => wpt_plain _ ρ k (hw _ h) (fun _ _ => rfl)
  | .Call .., ρ, k, hw, h => wpt_plain _ ρ k (hw _ h) (fun _ _ => rfl)
  | .Subscript .., ρ, k, hw, h => wpt_plain _ ρ k (hw _ h) (fun _ _ => rfl)
  | .Tuple .., ρ, k, hw, h => wpt_plain _ ρ k (hw _ h) (fun _ _ => rfl)
  | .NamedExpr .., ρ, k, hw, h => wpt_plain _ ρ k (hw _ h) (fun _ _ => rfl)
  | .Lambda .., ρ, k, hw, h => wpt_plain _ ρ k (hw _ h) (fun _ _ => rfl)
  | .Dict .., ρ, k, hw, h => wpt_plain _ ρ k (hw _ h) (fun _ _ => rfl)
  | .Set .., ρ, k, hw, h => wpt_plain _ ρ k (hw _ h) (fun _ _ => rfl)
  | .ListComp .., ρ, k, hw, h => wpt_plain _ ρ k (hw _ h) (fun _ _ => rfl)
  | .SetComp .., ρ, k, hw, h => wpt_plain _ ρ k (hw _ h) (fun _ _ => rfl)
  | .DictComp .., ρ, k, hw, h => wpt_plain _ ρ k (hw _ h) (fun _ _ => rfl)
  | .GeneratorExp .., ρ, k, hw, h => wpt_plain _ ρ k (hw _ h) (fun _ _ => rfl)
  | .Await .., ρ, k, hw, h => wpt_plain _ ρ k (hw _ h) (fun _ _ => rfl)
  | .Yield .., ρ, k, hw, h => wpt_plain _ ρ k (hw _ h) (fun _ _ => rfl)
  | .YieldFrom .., ρ, k, hw, h => wpt_plain _ ρ k (hw _ h) (fun _ _ => rfl)
  | .FormattedValue .., ρ, k, hw, h => wpt_plain _ ρ k (hw _ h) (fun _ _ => rfl)
  | .JoinedStr .., ρ, k, hw, h => wpt_plain _ ρ k (hw _ h) (fun _ _ => rfl)
  | .Attribute .., ρ, k, hw, h => wpt_plain _ ρ k (hw _ h) (fun _ _ => rfl)
  | .Starred .., ρ, k, hw, h => wpt_plain _ ρ k (hw _ h) (fun _ _ => rfl)
  | .List .., ρ, k, hw, h => wpt_plain _ ρ k (hw _ h) (fun _ _ => rfl)
  | .Slice .., ρ, k, hw, h => wpt_plain _ ρ k (hw _ h) (fun _ _ => rfl)
theorem wpes_sound (hG : GOk K G) : ∀ (es : List PySem.Expr) (ρ : Ev) (k : List D → Prop), es.all nstar = true → wpes prog w K n sc G es ρ k → SemEs prog w K n sc es ρ k
  | [], ρ, k, _, h => by
    intro A s h₀ L nm fa cd pos Q R I hq
    exact PyProof.Rows.spliced_none (hq _ _ _ h .nil (Ext.refl _))
  | e :: r, ρ, k, hs, h => by
    intro A s h₀ L nm fa cd pos Q R I hq
    obtain ⟨h1, h2⟩ := Bool.and_eq_true_iff.mp (by simpa using hs : (nstar e && r.all nstar) = true)
    refine PyProof.Rows.spliced_more (wpe_sound hG e ρ _ h A s h₀ L nm fa cd _ R I fun a s₁ da h₁ ra e₁ => ?_) (starEach_cons h1)
    exact wpes_sound hG r ρ _ h2 h₁ A s₁ h₀ L nm fa cd pos _ R (I.ext e₁) fun vs s₂ ds hk rv e₂ => hq _ _ _ hk (.cons (RV.kp e₂.2 ra) rv) (e₁.trans e₂)
theorem wpb_sound (hG : GOk K G) (op : PySem.BoolOp) (pos : Pos) : ∀ (es : List PySem.Expr) (ρ : Ev) (k : D → Prop), wpb prog w K n sc G op es ρ k → 
  ∀ (A : Around) (s : Shared) (h₀ : Heap) (L : Addr) (nm : Str) (fa : Addr) (cd : Value) (Q : Value → Shared → Prop), Rm n A → Inn K h₀ L sc ρ s →
    (∀ v s' d, k d → RV s'.heap v d → Ext s s' → Q v s') → wpAny (model prog w) A (boolOp pos op (evalEach es (envOf nm sc L fa cd))) Q (fun _ _ => False) s
  | [], ρ, k, h => (h : False).elim
  | [x], ρ, k, h => fun A s h₀ L nm fa cd Q R I hq => wpe_sound hG x ρ k h A s h₀ L nm fa cd Q R I hq
  | x :: y :: r, ρ, k, h => by
    intro A s h₀ L nm fa cd Q R I hq
    show wpAny _ _ (do
      let v ← eval x (envOf nm sc L fa cd)
      standAt pos
      let t ← holding [v] (truthy v)
      match op, t with
      | .And, false | .Or, true => pure v
      | _, _ => boolOp pos op (evalEach (y :: r) (envOf nm sc L fa cd))) _ _ _
    refine wpAny_bind (wpe_sound hG x ρ _ h A s h₀ L nm fa cd _ R I fun a s₁ da h₁ ra e₁ => ?_)
    refine wpAny_bind (wpAny_standAt (wpAny_bind (wpAny_holding (trv_sound h₁ ra fun c hc => ?_))))
    cases op with
    | And =>
      simp only [br] at hc
      cases c with
      | true => exact wpb_sound hG .And pos (y :: r) ρ k hc A s₁ h₀ L nm fa cd Q R (I.ext e₁) fun v s₃ d hk rv e₃ => hq v s₃ d hk rv (e₁.trans e₃)
      | false => exact wpAny_pure (hq _ _ _ hc ra e₁)
    | Or =>
      simp only [br] at hc
      cases c with
      | true => exact wpAny_pure (hq _ _ _ hc ra e₁)
      | false => exact wpb_sound hG .Or pos (y :: r) ρ k hc A s₁ h₀ L nm fa cd Q R (I.ext e₁) fun v s₃ d hk rv e₃ => hq v s₃ d hk rv (e₁.trans e₃)
theorem wpa_sound (hG : GOk K G) (op : PySem.BoolOp) : ∀ (es : List PySem.Expr) (ρ : Ev) (k : Bool → Prop), wpa prog w K n sc G op es ρ k → 
  ∀ (A : Around) (s : Shared) (h₀ : Heap) (L : Addr) (nm : Str) (fa : Addr) (cd : Value) (Q : Bool → Shared → Prop), Rm n A → Inn K h₀ L sc ρ s →
    (∀ v s', k v → Ext s s' → Q v s') → wpAny (model prog w) A (allTrue op es (envOf nm sc L fa cd)) Q (fun _ _ => False) s
  | [], ρ, k, h => fun A s h₀ L nm fa cd Q R I hq => wpAny_pure (hq _ _ h (Ext.refl _))
  | x :: r, ρ, k, h => by
    intro A s h₀ L nm fa cd Q R I hq
    show wpAny _ _ (do
      match op, ← isTrue x (envOf nm sc L fa cd) (eval x (envOf nm sc L fa cd)) with
      | .And, false => pure false
      | .Or, true => pure true
      | _, _ => allTrue op r (envOf nm sc L fa cd)) _ _ _
    refine wpAny_bind (wpt_sound hG x ρ _ (fun k' h' => wpe_sound hG x ρ k' h') h A s h₀ L nm fa cd _ R I fun c s₁ hc e₁ => ?_)
    cases op with
    | And =>
      simp only [br] at hc
      cases c with
      | true => exact wpa_sound hG .And r ρ k hc A s₁ h₀ L nm fa cd Q R (I.ext e₁) fun v s₃ hk e₃ => hq v s₃ hk (e₁.trans e₃)
      | false => exact wpAny_pure (hq _ _ hc e₁)
    | Or =>
      simp only [br] at hc
      cases c with
      | true => exact wpAny_pure (hq _ _ hc e₁)
      | false => exact wpa_sound hG .Or r ρ k hc A s₁ h₀ L nm fa cd Q R (I.ext e₁) fun v s₃ hk e₃ => hq v s₃ hk (e₁.trans e₃)
theorem wpc_sound (hG : GOk K G) (pos : Pos) : ∀ (ops : List CmpOp) (es : List PySem.Expr) (a : Value) (da : D) (ρ : Ev) (k : D → Prop), wpc prog w K n sc G ops es da ρ k → 
  ∀ (A : Around) (s : Shared) (h₀ : Heap) (L : Addr) (nm : Str) (fa : Addr) (cd : Value) (Q : Value → Shared → Prop), Rm n A → Inn K h₀ L sc ρ s → RV s.heap a da →
    (∀ v s' d, k d → RV s'.heap v d → Ext s s' → Q v s') → wpAny (model prog w) A (compareChain pos a ops (markedEach ops es (evalEach es (envOf nm sc L fa cd)))) Q (fun _ _ => False) s
  | [op], [r], a, da, ρ, k, h => by
    intro A s h₀ L nm fa cd Q R I ra hq
    show wpAny _ _ (do
      let rv ← holding [a] (markedBehindIn op r (eval r (envOf nm sc L fa cd)))
      standAt pos
      operate [a, rv] (compareOp op a rv)) _ _ _
    rw [markedBehindIn_of_false (noset_marks h.1)]
    refine wpAny_bind (wpAny_holding (wpe_sound hG r ρ _ h.2 A s h₀ L nm fa cd _ R I fun b s₁ db h₁ rb e₁ => ?_))
    refine wpAny_bind (wpAny_standAt ?_)
    exact wpAny_operating (cmpv_sound h₁ (RV.kp e₁.2 ra) rb R fun c hc => hq _ _ _ hc (.bool _) e₁)
  | op :: op' :: ops, r :: r' :: rs, a, da, ρ, k, h => by
    intro A s h₀ L nm fa cd Q R I ra hq
    show wpAny _ _ (do
      let rv ← holding [a] (eval r (envOf nm sc L fa cd))
      standAt pos
      let c ← holding [a, rv] (compareOp op a rv)
      release [a, rv] [c]
      if ← holding [c, rv] (truthy c) then compareChain pos rv (op' :: ops) (markedEach (op' :: ops) (r' :: rs) (evalEach (r' :: rs) (envOf nm sc L fa cd))) else pure c) _ _ _
    refine wpAny_bind (wpAny_holding (wpe_sound hG r ρ _ h A s h₀ L nm fa cd _ R I fun b s₁ db h₁ rb e₁ => ?_))
    refine wpAny_bind (wpAny_standAt ?_)
    refine wpAny_bind (wpAny_holding (cmpv_sound h₁ (RV.kp e₁.2 ra) rb R fun c hc => ?_))
    refine wpAny_bind (wpAny_release' ?_)
    refine wpAny_bind (wpAny_holding (wpAny_truthy_bool ?_))
    unfold br at hc
    cases c with
    | true => exact wpc_sound hG pos (op' :: ops) (r' :: rs) b db ρ k hc A s₁ h₀ L nm fa cd Q R (I.ext e₁) rb fun v s₃ d hk rv e₃ => hq v s₃ d hk rv (e₁.trans e₃)
    | false => exact wpAny_pure (hq _ _ _ hc (.bool _) e₁)
  | [], [], _, _, _, _, h => (h : False).elim
  | [], _ :: _, _, _, _, _, h => (h : False).elim
  | [_], [], _, _, _, _, h => (h : False).elim
  | [_], _ :: _ :: _, _, _, _, _, h => (h : False).elim
  | _ :: _ :: _, [], _, _, _, _, h => (h : False).elim
  | _ :: _ :: _, [_], _, _, _, _, h => (h : False).elim
theorem wpd_sound (hG : GOk K G) (pos : Pos) : ∀ (ops : List CmpOp) (es : List PySem.Expr) (a : Value) (da : D) (ρ : Ev) (k : Bool → Prop), wpd prog w K n sc G ops es da ρ k → 
  ∀ (A : Around) (s : Shared) (h₀ : Heap) (L : Addr) (nm : Str) (fa : Addr) (cd : Value) (Q : Bool → Shared → Prop), Rm n A → Inn K h₀ L sc ρ s → RV s.heap a da →
    (∀ v s', k v → Ext s s' → Q v s') → wpAny (model prog w) A (testChain pos a ops (markedEach ops es (evalEach es (envOf nm sc L fa cd)))) Q (fun _ _ => False) s
  | [op], [r], a, da, ρ, k, h => by
    intro A s h₀ L nm fa cd Q R I ra hq
    show wpAny _ _ (do
      let rv ← holding [a] (markedBehindIn op r (eval r (envOf nm sc L fa cd)))
      standAt pos
      let c ← operate [a, rv] (compareOp op a rv)
      holding [c] (truthy c)) _ _ _
    rw [markedBehindIn_of_false (noset_marks h.1)]
    refine wpAny_bind (wpAny_holding (wpe_sound hG r ρ _ h.2 A s h₀ L nm fa cd _ R I fun b s₁ db h₁ rb e₁ => ?_))
    refine wpAny_bind (wpAny_standAt ?_)
    refine wpAny_bind (wpAny_operating (cmpv_sound h₁ (RV.kp e₁.2 ra) rb R fun c hc => ?_))
    exact wpAny_holding (wpAny_truthy_bool (hq _ _ hc e₁))
  | op :: op' :: ops, r :: r' :: rs, a, da, ρ, k, h => by
    intro A s h₀ L nm fa cd Q R I ra hq
    show wpAny _ _ (do
      let rv ← holding [a] (eval r (envOf nm sc L fa cd))
      standAt pos
      let c ← holding [a, rv] (compareOp op a rv)
      release [a, rv] [c]
      if ← holding [c, rv] (truthy c) then testChain pos rv (op' :: ops) (markedEach (op' :: ops) (r' :: rs) (evalEach (r' :: rs) (envOf nm sc L fa cd))) else pure false) _ _ _
    refine wpAny_bind (wpAny_holding (wpe_sound hG r ρ _ h A s h₀ L nm fa cd _ R I fun b s₁ db h₁ rb e₁ => ?_))
    refine wpAny_bind (wpAny_standAt ?_)
    refine wpAny_bind (wpAny_holding (cmpv_sound h₁ (RV.kp e₁.2 ra) rb R fun c hc => ?_))
    refine wpAny_bind (wpAny_release' ?_)
    refine wpAny_bind (wpAny_holding (wpAny_truthy_bool ?_))
    unfold br at hc
    cases c with
    | true => exact wpd_sound hG pos (op' :: ops) (r' :: rs) b db ρ k hc A s₁ h₀ L nm fa cd Q R (I.ext e₁) rb fun v s₃ hk e₃ => hq v s₃ hk (e₁.trans e₃)
    | false => exact wpAny_pure (hq _ _ hc e₁)
  | [], [], _, _, _, _, h => (h : False).elim
  | [], _ :: _, _, _, _, _, h => (h : False).elim
  | [_], [], _, _, _, _, h => (h : False).elim
  | [_], _ :: _ :: _, _, _, _, _, h => (h : False).elim
  | _ :: _ :: _, [], _, _, _, _, h => (h : False).elim
  | _ :: _ :: _, [_], _, _, _, _, h => (h : False).elim
end
end
end Mine

end
section
open PySem PySem.W PyProof.Rows PySem.Calls
namespace Mine
section
variable {prog : Program} {w : World} {K : Frag} {n : Nat} {sc : Scope} {G : Ev}
variable {A : Around} {E : Value → Shared → Prop} {s : Shared} {h₀ : Heap} {L fa : Addr} {nm : Str} {cd : Value} {ρ : Ev}

theorem Like.refl (s : Shared) : Like L s s := ⟨⟨s.heap, s.toks, rfl⟩, fun _ _ _ e => e⟩
theorem Like.trans {a b c : Shared} (x : Like L a b) (y : Like L b c) : Like L a c := by
  obtain ⟨⟨h, t, rfl⟩, k⟩ := x; obtain ⟨⟨h', t', rfl⟩, k'⟩ := y; exact ⟨⟨h', t', rfl⟩, fun b o n e => k' b o n (k b o n e)⟩
theorem Ext.like {a b : Shared} (x : Ext a b) : Like L a b := ⟨x.1, fun b o _ e => x.2 b o e⟩
theorem kp_extBut {h h' : Heap} (x : Heap.ExtBut h.objs.size h h') : Kp h h' := fun b o e => x b o (Nat.ne_of_lt (Heap.lt_size e)) e

theorem ncomp_swaps {e : PySem.Expr} {t : Option PySem.Expr} {l : Nat} {env : Env} (h : ncomp e = true) : swapsWith e t l env = pure false := by
  cases e <;> first | rfl | cases h

/-- names bound in their order -/
theorem asg_sound : ∀ (ts : List PySem.Expr) (ds : List D) (vs : List Value) (ρ : Ev) (c : Ev → Prop) (s : Shared) (Q : Unit → Shared → Prop), asg sc ts ds ρ c → RVs s.heap vs ds → Inn K h₀ L sc ρ s →
    (∀ s' ρ', c ρ' → Inn K h₀ L sc ρ' s' → Like L s s' → Q () s') →
    wpAny (model prog w) A (assignInOrder ((assignEach ts (envOf nm sc L fa cd)).map (·.2)) vs) Q E s
  | [], [], vs, ρ, c, s, Q, h, r, I, hq => by
    obtain rfl := r.inv_nil
    exact assignInOrder_nil (hq _ _ h I (Like.refl _))
  | [], _ :: _, _, _, _, _, _, h, _, _, _ => (h : False).elim
  | t :: ts, [], vs, ρ, c, s, Q, h, r, I, hq => by
    cases t <;> exact (h : False).elim
  | t :: ts, d :: ds, vs, ρ, c, s, Q, h, r, I, hq => by
    cases t <;> first | exact (h : False).elim | skip
    rename_i x p
    obtain ⟨v, vs', rfl, rv, r'⟩ := r.inv_cons
    have h2 := (upk_eq x d ρ _).mp h.2
    refine assignInOrder_cons (t := assign (.Name x p) (envOf nm sc L fa cd)) ?_
    show wpAny _ _ (do standAt p; bindName (envOf nm sc L fa cd) x v) _ _ _
    refine wpAny_bind (wpAny_standAt (wpAny_bindName (store_local I (isL_inv h.1) rv fun s' I' lk' keep => ?_)))
    exact asg_sound ts ds vs' _ c s' Q h2 (RVs.rec (motive_1 := fun v d _ => RV s'.heap v d) (motive_2 := fun vs ds _ => RVs s'.heap vs ds)
      .none .bool .int .str (fun a b _ => keep _ _ (.tup a b)) (fun a b _ => keep _ _ (.lst a b)) (fun a => .obj a) (fun a b _ => keep _ _ (.lat a b)) (fun T => .typ T) .nil (fun _ _ a b => .cons a b) r') I' fun s'' ρ'' a b c => hq _ _ a b (lk'.trans c)

theorem asg_names : ∀ {ts : List PySem.Expr} {ds : List D} {ρ : Ev} {c : Ev → Prop}, asg sc ts ds ρ c → ts.length = ds.length ∧ ts.all nstar = true
  | [], [], ρ, c, h => ⟨rfl, rfl⟩
  | [], _ :: _, _, _, h => (h : False).elim
  | t :: ts, [], ρ, c, h => by cases t <;> exact (h : False).elim
  | t :: ts, d :: ds, ρ, c, h => by
    cases t <;> first | exact (h : False).elim | skip
    have h2 := (upk_eq _ d ρ _).mp h.2
    obtain ⟨a, b⟩ := asg_names h2
    exact ⟨by simp [a], by simpa [nstar] using b⟩

theorem assignEach_plain {env : Env} : ∀ {ts : List PySem.Expr}, ts.all nstar = true → (assignEach ts env).length = ts.length ∧ (assignEach ts env).findIdx? (·.1) = none
  | [], _ => ⟨rfl, rfl⟩
  | t :: r, h => by
    obtain ⟨h1, h2⟩ := Bool.and_eq_true_iff.mp (by simpa using h : (nstar t && r.all nstar) = true)
    have e : assignEach (t :: r) env = (false, assign t env) :: assignEach r env := by cases t <;> first | rfl | cases h1
    obtain ⟨a, b⟩ := assignEach_plain (env := env) h2
    rw [e]
    exact ⟨by simp [a], by simp only [List.findIdx?_cons]; simpa using b⟩

theorem exec_Assign_Tuple {ts : List PySem.Expr} {x : Nat} {p pos : Pos} {e : PySem.Expr} {env : Env} (hs : swapsWith e (some (.Tuple ts x p)) pos.line env = pure false) : exec (.Assign [.Tuple ts x p] e pos) env = (do
    standAt pos
    let v ← eval e env
    assignStores env v (← swappedStores [.Tuple ts x p] e env) [assign (.Tuple ts x p) env]) := by
  have e0 : exec (.Assign [.Tuple ts x p] e pos) env = (do
      standAt pos
      if ← swapsWith e (some (.Tuple ts x p)) pos.line env then do
        evalThenUse e env fun v => assignAll v ((assignEach [.Tuple ts x p] env).map (·.2))
        pure .next
      else do
        let v ← eval e env
        assignStores env v (← swappedStores [.Tuple ts x p] e env) ((assignEach [.Tuple ts x p] env).map (·.2))) := rfl
  rw [e0, hs]; rfl

/-- an unpacked tuple -/
theorem unpack_sound {ts : List PySem.Expr} {x : Nat} {p : Pos} {v : Value} {ds : List D} {c : Ev → Prop} {Q : Flow → Shared → Prop} (R : Rm n A) (I : Inn K h₀ L sc ρ s) (rv : RV s.heap v (.tuple ds)) (h : asg sc ts ds ρ c)
    (hq : ∀ s' ρ', c ρ' → Inn K h₀ L sc ρ' s' → Like L s s' → Q .next s') :
    wpAny (model prog w) A (assignStores (envOf nm sc L fa cd) v none [assign (.Tuple ts x p) (envOf nm sc L fa cd)]) Q E s := by
  obtain ⟨a, vs, rfl, T, r⟩ := rv.tuple_inv
  obtain ⟨hn, hst⟩ := asg_names h
  obtain ⟨e1, e2⟩ := assignEach_plain (env := envOf nm sc L fa cd) hst
  have hl : vs.toList.length = ds.length := r.length
  unfold assignStores
  refine wpAny_bind ?_
  show wpAny _ _ (assign (.Tuple ts x p) (envOf nm sc L fa cd) (.ref a)) _ _ _
  refine assign_Tuple_tuple R.hh T (by rw [e1, hn, ← hl]; simp) e2 fun h' he => ?_
  have ex : Ext s { s with heap := h' } := ⟨⟨h', s.toks, rfl⟩, kp_extBut he⟩
  exact asg_sound ts ds _ ρ c _ _ h (RVs.kp ex.2 r) (I.ext ex) fun s' ρ' a b d => wpAny_pure (hq s' ρ' a b (ex.like.trans d))
end
end Mine

end
section
open PySem PySem.W PyProof.Rows PySem.Calls
namespace Mine
section
variable {prog : Program} {w : World} {K : Frag} {n : Nat} {sc : Scope} {G : Ev}
variable {A : Around} {E : Value → Shared → Prop} {s : Shared} {h₀ : Heap} {L fa : Addr} {nm : Str} {cd : Value} {ρ : Ev}

theorem Inn.lks {ρ' : Ev} (I : Inn K h₀ L sc ρ s) (h : ∀ x, lk x ρ' = lk x ρ) : Inn K h₀ L sc ρ' s where
  fr := let ⟨m, F, r⟩ := I.fr; ⟨m, F, fun x d e => r x d ((h x).symm.trans e)⟩
  gd := I.gd
  loc := fun x d e => I.loc x d ((h x).symm.trans e)
  kind := I.kind

theorem swapped_sound {x y : Str} {px py q : Pos} {z : Nat} {a b : PySem.Expr} {zb : Nat} {qb : Pos} {v : Value} {d e : D} {c : Ev → Prop} {Q : Flow → Shared → Prop} (R : Rm n A) (I : Inn K h₀ L sc ρ s) (rv : RV s.heap v (.tuple [d, e]))
    (hok : okSwap sc [.Name x px, .Name y py] (.Tuple [a, b] zb qb) = true) (h : asg sc [.Name x px, .Name y py] [d, e] ρ c)
    (hq : ∀ s' ρ', c ρ' → Inn K h₀ L sc ρ' s' → Like L s s' → Q .next s') :
    wpAny (model prog w) A (do assignStores (envOf nm sc L fa cd) v (← swappedStores [.Tuple [.Name x px, .Name y py] z q] (.Tuple [a, b] zb qb) (envOf nm sc L fa cd)) [assign (.Tuple [.Name x px, .Name y py] z q) (envOf nm sc L fa cd)]) Q E s := by
  have h1 : (nstar a && nstar b && isL sc x && isL sc y && py.line == px.line && !(x == y) && !([a, b].all (foldedForSure 8)) && !([a, b].all (constantsAlone 8))) = true := hok
  simp only [Bool.and_eq_true] at h1
  obtain ⟨⟨⟨⟨⟨⟨⟨ha, hb⟩, hx⟩, hy⟩, hl⟩, hne⟩, hf⟩, hc⟩ := h1
  have hx' := isL_inv hx
  have hy' := isL_inv hy
  have hkind : sc.kind = .function := I.kind
  have hxy : x ≠ y := by intro e; subst e; simp at hne
  have e0 : swappedStores [.Tuple [.Name x px, .Name y py] z q] (.Tuple [a, b] zb qb) (envOf nm sc L fa cd) = pure (some [x, y]) := by
    unfold swappedStores
    have hbk : ((envOf nm sc L fa cd).blockKind != .function) = false := by
      show ((if sc.kind.isAnnotationScope then ScopeKind.function else sc.kind) != .function) = false
      rw [hkind]; rfl
    have hany : ∀ f : PySem.Expr → Bool, (∀ e, nstar e = true → f e = false) → [a, b].any f = false := by
      intro f hf
      simp only [List.any_cons, List.any_nil, hf a ha, hf b hb, Bool.or_false]
    have hfm : ∀ f : PySem.Expr → Option Str, f (.Name x px) = some x → f (.Name y py) = some y → [PySem.Expr.Name x px, PySem.Expr.Name y py].filterMap f = [x, y] := by
      intro f h1 h2
      simp only [List.filterMap_cons, List.filterMap_nil, h1, h2]
    have hkx : (envOf nm sc L fa cd).kindOf x = some .local := hx'
    have hky : (envOf nm sc L fa cd).kindOf y = some .local := hy'
    have hdup : [x, y].eraseDups = [x, y] := by simp [List.eraseDups_cons, hxy, Ne.symm hxy]
    simp only [Bool.not_eq_true'] at hf hc
    dsimp only
    rw [if_neg (by simp only [List.length_cons, List.length_nil, hbk]; decide)]
    rw [hany, if_neg (by decide), hfm, hdup, if_neg (by simp), hf, hc, if_neg (by decide), if_neg (by decide)]
    all_goals first
      | (show (if ((envOf nm sc L fa cd).kindOf x == some .local && px.line == px.line) = true then some x else none) = some x
         rw [hkx, if_pos]; simp; done)
      | (show (if ((envOf nm sc L fa cd).kindOf y == some .local && py.line == px.line) = true then some y else none) = some y
         rw [hky, hl, if_pos]; rfl; done)
      | (intro e he
         cases e <;> first | rfl | (cases he; done))
      | rfl
  rw [e0]
  refine wpAny_bind (wpAny_pure ?_)
  unfold assignStores
  refine wpAny_bind (wpAny_rule ?_)
  obtain ⟨t, vs, rfl, T, r⟩ := rv.tuple_inv
  have hl' : vs.toList.length = 2 := r.length
  have hsz : vs.size = 2 := by simpa using hl'
  rw [show ([x, y] : List Str).length = vs.size by rw [hsz]; rfl]
  refine wpAny_bind (unpackItems_tuple R.hh T fun h' he => ?_)
  have ex : Ext s { s with heap := h' } := ⟨⟨h', s.toks, rfl⟩, kp_extBut he⟩
  obtain ⟨v1, vs', e1, r1, r'⟩ := r.inv_cons
  obtain ⟨v2, vs'', e2, r2, r''⟩ := r'.inv_cons
  obtain rfl := r''.inv_nil
  subst e2
  rw [e1]
  simp only [List.reverse_cons, List.reverse_nil, List.nil_append, List.map_cons, List.map_nil, List.cons_append]
  obtain ⟨_, h2⟩ := h
  have h3 := (upk_eq x d ρ _).mp h2
  obtain ⟨_, h4⟩ := h3
  have h5 := (upk_eq y e _ _).mp h4
  refine wpAny_bind (assignInOrder_cons (wpAny_bindName (store_local (I.ext ex) hy' (RV.kp ex.2 r2) fun s₁ I₁ l₁ k₁ => ?_)))
  refine assignInOrder_cons (wpAny_bindName (store_local I₁ hx' (k₁ _ _ (RV.kp ex.2 r1)) fun s₂ I₂ l₂ k₂ => ?_))
  refine assignInOrder_nil (wpAny_pure (hq s₂ _ h5 (I₂.lks fun u => ?_) (ex.like.trans (l₁.trans l₂))))
  simp only [lk_up]
  by_cases q1 : y = u
  · subst q1; simp [hxy]
  · by_cases q2 : x = u <;> simp [q1, q2]
end
end Mine

end
section
open PySem PySem.W PyProof.Rows PySem.Calls
namespace Mine
section
variable {prog : Program} {w : World} {K : Frag} {n : Nat} {sc : Scope} {G : Ev}
variable {A : Around} {E : Value → Shared → Prop} {s : Shared} {h₀ : Heap} {L fa : Addr} {nm : Str} {cd : Value} {ρ : Ev}

theorem Inn.retF (I : Inn K h₀ L sc ρ s) : ∃ m, Fr h₀ L s.heap m := let ⟨m, F, _⟩ := I.fr; ⟨m, F⟩

theorem wpt_sound' (hG : GOk K G) (e : PySem.Expr) (ρ : Ev) (k : Bool → Prop) (h : wpt prog w K n sc G e ρ (wpe prog w K n sc G e ρ) k) : SemT prog w K n sc e ρ k :=
  wpt_sound hG e ρ k (fun k' h' => wpe_sound hG e ρ k' h') h

theorem assign_tuple_sound (hG : GOk K G) {ts : List PySem.Expr} {z : Nat} {q pos : Pos} {e : PySem.Expr} {k : Fl → Prop} (hc : ncomp e = true) (hok : okSwap sc ts e = true)
    (h : wpe prog w K n sc G e ρ fun d => (match d with
      | .tuple ds => asg sc ts ds ρ fun ρ' => k (.next ρ')
      | _ => False)) : SemS prog w K n sc (.Assign [.Tuple ts z q] e pos) ρ k := by
  intro A s h₀ L nm fa cd Q R I hq
  rw [exec_Assign_Tuple (ncomp_swaps hc)]
  refine wpAny_bind (wpAny_standAt (wpAny_bind (wpe_sound hG e ρ _ h A s h₀ L nm fa cd _ R I fun v s₁ d hd rv e₁ => ?_)))
  cases d <;> first | exact (hd : False).elim | skip
  rename_i ds
  have fin : ∀ s' ρ', k (.next ρ') → Inn K h₀ L sc ρ' s' → Like L s₁ s' → Q .next s' := fun s' ρ' a b c => hq _ _ (.next ρ') a b (e₁.like.trans c)
  have none_case : swappedStores [.Tuple ts z q] e (envOf nm sc L fa cd) = pure none →
      wpAny (model prog w) A (do assignStores (envOf nm sc L fa cd) v (← swappedStores [.Tuple ts z q] e (envOf nm sc L fa cd)) [assign (.Tuple ts z q) (envOf nm sc L fa cd)]) Q (fun _ _ => False) s₁ := by
    intro e0
    rw [e0]
    exact wpAny_bind (wpAny_pure (unpack_sound R (I.ext e₁) rv hd fin))
  cases e with
  | Tuple vs zb qb =>
    by_cases hl : (!(ts.length == 2 || ts.length == 3)) = true
    · refine none_case ?_
      unfold swappedStores
      dsimp only
      rw [if_pos (by rw [hl]; rfl)]
    · unfold okSwap at hok
      simp only [Bool.not_eq_true] at hl
      simp only [hl, Bool.false_or] at hok
      split at hok
      · rename_i x p y q' a b
        obtain ⟨hlen, _⟩ := asg_names hd
        match ds, hlen, hd, rv with
        | [d, e], _, hd, rv => exact swapped_sound R (I.ext e₁) rv (by unfold okSwap; simp only [hl, Bool.false_or]; exact hok) hd fin
      · cases hok
  | _ => exact none_case rfl

mutual
theorem wp1_sound (hG : GOk K G) : ∀ (st : Stmt) (ρ : Ev) (k : Fl → Prop), wp1 prog w K n sc G st ρ k → SemS prog w K n sc st ρ k
  | .Pass _, ρ, k, h => fun A s h₀ L nm fa cd Q R I hq => wpAny_Pass (hq _ _ (.next ρ) h I (Like.refl _))
  | .Break _, ρ, k, h => fun A s h₀ L nm fa cd Q R I hq => wpAny_Break (hq _ _ (.brk ρ) h I (Like.refl _))
  | .Continue _, ρ, k, h => fun A s h₀ L nm fa cd Q R I hq => wpAny_Continue (hq _ _ (.cont ρ) h I (Like.refl _))
  | .Return (some e) _, ρ, k, h => fun A s h₀ L nm fa cd Q R I hq =>
    wpAny_Return_some (wpe_sound hG e ρ _ h A s h₀ L nm fa cd _ R I fun v s₁ d hd rv e₁ => hq _ _ (.ret d) hd ⟨(I.ext e₁).retF, rv⟩ e₁.like)
  | .Return none _, _, _, h => h
  | .Assign [.Name x _] e _, ρ, k, h => fun A s h₀ L nm fa cd Q R I hq =>
    wpAny_Assign_Name (wpe_sound hG e ρ _ h.2 A s h₀ L nm fa cd _ R I fun v s₁ d hd rv e₁ =>
      store_local (I.ext e₁) (isL_inv h.1.2) rv fun s₂ I₂ l₂ _ => hq _ _ (.next _) ((upk_eq x d ρ _).mp hd) I₂ (e₁.like.trans l₂)) (ncomp_swaps h.1.1)
  | .Assign [.Tuple ts z q] e pos, ρ, k, h => assign_tuple_sound hG h.1.1 h.1.2 h.2
  | .AugAssign (.Name x _) op e _, ρ, k, h => fun A s h₀ L nm fa cd Q R I hq => by
    obtain ⟨d₀, h1, h2⟩ := vl0_inv h.2
    refine wpAny_AugAssign_Name (load_localn I h1 fun a ra => ?_)
    refine wpe_sound hG e ρ _ h2 A s h₀ L nm fa cd _ R I fun b s₁ db h₁ rb e₁ => ?_
    refine augv_sound h₁ (RV.kp e₁.2 ra) rb fun v s₂ d hd rv e₂ => ?_
    exact store_local (I.ext (e₁.trans e₂)) (isL_inv h.1) rv fun s₃ I₃ l₃ _ => hq _ _ (.next _) ((upk_eq x d ρ _).mp hd) I₃ ((e₁.trans e₂).like.trans l₃)
  | .If t b o _, ρ, k, h => fun A s h₀ L nm fa cd Q R I hq => by
    refine wpAny_If (wpt_sound' hG t ρ _ h A s h₀ L nm fa cd _ R I fun c s₁ hc e₁ => ?_)
    unfold br at hc
    cases c with
    | true => exact wps_sound hG b ρ k hc A s₁ h₀ L nm fa cd Q R (I.ext e₁) fun f s' o a b c => hq f s' o a b (e₁.like.trans c)
    | false => exact wps_sound hG o ρ k hc A s₁ h₀ L nm fa cd Q R (I.ext e₁) fun f s' o a b c => hq f s' o a b (e₁.like.trans c)
  | .Assert t none _, ρ, k, h => fun A s h₀ L nm fa cd Q R I hq =>
    wpAny_Assert_holds (wpt_sound' hG t ρ _ h A s h₀ L nm fa cd _ R I fun c s₁ hc e₁ => ⟨hc.1, hq _ _ (.next ρ) hc.2 (I.ext e₁) e₁.like⟩)
  | .While t b [] _, ρ, k, h => fun A s h₀ L nm fa cd Q R I hq => by
    obtain ⟨J, ⟨m₀, hm₀⟩, turn⟩ := h
    refine wpAny_While (codeAny_whileLoop (fun m s' => ∃ ρ', J m ρ' ∧ Inn K h₀ L sc ρ' s' ∧ Like L s s') ?_ m₀ ⟨ρ, hm₀, I, Like.refl _⟩)
    rintro m s' ⟨ρ', hJ, I', l'⟩
    refine wpAny_mono (wpt_sound' hG t ρ' _ (turn m ρ' hJ) A s' h₀ L nm fa cd _ R I' fun c s₁ hc e₁ => ?_) (fun _ _ x => x) fun _ _ x => x.elim
    unfold br at hc
    cases c with
    | false => exact wpAny_execs_nil (hq _ _ (.next ρ') hc (I'.ext e₁) (l'.trans e₁.like))
    | true =>
      refine wpAny_mono (wps_sound hG b ρ' _ hc A s₁ h₀ L nm fa cd _ R (I'.ext e₁) fun f s₂ o ho hf l₂ => ?_) (fun _ _ x => x) fun _ _ x => x.elim
      have ls := l'.trans (e₁.like.trans l₂)
      cases o <;> cases f <;> first | exact (hf : False).elim | skip
      · exact let ⟨m', a, b⟩ := ho; ⟨m', a, _, b, hf, ls⟩
      · exact hq _ _ (.ret _) ho hf ls
      · exact hq _ _ (.next _) ho hf ls
      · exact let ⟨m', a, b⟩ := ho; ⟨m', a, _, b, hf, ls⟩
  | .While _ _ (_ :: _) _, _, _, h => h
  | .Assert _ (some _) _, _, _, h => h
  | .FunctionDef .., _, _, h => h
  | .AsyncFunctionDef .., _, _, h => h
  | .ClassDef .., _, _, h => h
  | .Delete .., _, _, h => h
  | .TypeAlias .., _, _, h => h
  | .AnnAssign .., _, _, h => h
  | .For .., _, _, h => h
  | .AsyncFor .., _, _, h => h
  | .With .., _, _, h => h
  | .AsyncWith .., _, _, h => h
  | .Match .., _, _, h => h
  | .Raise .., _, _, h => h
  | .Try .., _, _, h => h
  | .TryStar .., _, _, h => h
  | .Import .., _, _, h => h
  | .ImportFrom .., _, _, h => h
  | .Global .., _, _, h => h
  | .Nonlocal .., _, _, h => h
  | .Expr .., _, _, h => h
  | .Assign [] _ _, _, _, h => h
  | .Assign (.Name .. :: _ :: _) _ _, _, _, h => h
  | .Assign (.Tuple .. :: _ :: _) _ _, _, _, h => h
  | .Assign (.BoolOp .. :: _) _ _, _, _, h => h
  | .Assign (.NamedExpr .. :: _) _ _, _, _, h => h
  | .Assign (.BinOp .. :: _) _ _, _, _, h => h
  | .Assign (.UnaryOp .. :: _) _ _, _, _, h => h
  | .Assign (.Lambda .. :: _) _ _, _, _, h => h
  | .Assign (.IfExp .. :: _) _ _, _, _, h => h
  | .Assign (.Dict .. :: _) _ _, _, _, h => h
  | .Assign (.Set .. :: _) _ _, _, _, h => h
  | .Assign (.ListComp .. :: _) _ _, _, _, h => h
  | .Assign (.SetComp .. :: _) _ _, _, _, h => h
  | .Assign (.DictComp .. :: _) _ _, _, _, h => h
  | .Assign (.GeneratorExp .. :: _) _ _, _, _, h => h
  | .Assign (.Await .. :: _) _ _, _, _, h => h
  | .Assign (.Yield .. :: _) _ _, _, _, h => h
  | .Assign (.YieldFrom .. :: _) _ _, _, _, h => h
  | .Assign (.Compare .. :: _) _ _, _, _, h => h
  | .Assign (.Call .. :: _) _ _, _, _, h => h
  | .Assign (.FormattedValue .. :: _) _ _, _, _, h => h
  | .Assign (.JoinedStr .. :: _) _ _, _, _, h => h
  | .Assign (.Constant .. :: _) _ _, _, _, h => h
  | .Assign (.Attribute .. :: _) _ _, _, _, h => h
  | .Assign (.Subscript .. :: _) _ _, _, _, h => h
  | .Assign (.Starred .. :: _) _ _, _, _, h => h
  | .Assign (.List .. :: _) _ _, _, _, h => h
  | .Assign (.Slice .. :: _) _ _, _, _, h => h
  | .AugAssign (.BoolOp ..) _ _ _, _, _, h => h
  | .AugAssign (.NamedExpr ..) _ _ _, _, _, h => h
  | .AugAssign (.BinOp ..) _ _ _, _, _, h => h
  | .AugAssign (.UnaryOp ..) _ _ _, _, _, h => h
  | .AugAssign (.Lambda ..) _ _ _, _, _, h => h
  | .AugAssign (.IfExp ..) _ _ _, _, _, h => h
  | .AugAssign (.Dict ..) _ _ _, _, _, h => h
  | .AugAssign (.Set ..) _ _ _, _, _, h => h
  | .AugAssign (.ListComp ..) _ _ _, _, _, h => h
  | .AugAssign (.SetComp ..) _ _ _, _, _, h => h
  | .AugAssign (.DictComp ..) _ _ _, _, _, h => h
  | .AugAssign (.GeneratorExp ..) _ _ _, _, _, h => h
  | .AugAssign (.Await ..) _ _ _, _, _, h => h
  | .AugAssign (.Yield ..) _ _ _, _, _, h => h
  | .AugAssign (.YieldFrom ..) _ _ _, _, _, h => h
  | .AugAssign (.Compare ..) _ _ _, _, _, h => h
  | .AugAssign (.Call ..) _ _ _, _, _, h => h
  | .AugAssign (.FormattedValue ..) _ _ _, _, _, h => h
  | .AugAssign (.JoinedStr ..) _ _ _, _, _, h => h
  | .AugAssign (.Constant ..) _ _ _, _, _, h => h
  | .AugAssign (.Attribute ..) _ _ _, _, _, h => h
  | .AugAssign (.Subscript ..) _ _ _, _, _, h => h
  | .AugAssign (.Starred ..) _ _ _, _, _, h => h
  | .AugAssign (.List ..) _ _ _, _, _, h => h
  | .AugAssign (.Tuple ..) _ _ _, _, _, h => h
  | .AugAssign (.Slice ..) _ _ _, _, _, h => h
theorem wps_sound (hG : GOk K G) : ∀ (st : List Stmt) (ρ : Ev) (k : Fl → Prop), wps prog w K n sc G st ρ k → SemSs prog w K n sc st ρ k
  | [], ρ, k, h => fun A s h₀ L nm fa cd Q R I hq => wpAny_execs_nil (hq _ _ (.next ρ) h I (Like.refl _))
  | st :: r, ρ, k, h => fun A s h₀ L nm fa cd Q R I hq => by
    refine wpAny_execs_cons (wp1_sound hG st ρ _ h A s h₀ L nm fa cd _ R I fun f s₁ o ho hf l₁ => ?_)
    cases o <;> cases f <;> first | exact (hf : False).elim | skip
    · exact wps_sound hG r _ k ho A s₁ h₀ L nm fa cd Q R hf fun f s₂ o a b c => hq f s₂ o a b (l₁.trans c)
    · exact hq _ _ _ ho hf l₁
    · exact hq _ _ _ ho hf l₁
    · exact hq _ _ _ ho hf l₁
end
end
end Mine

end
section
open PySem PySem.W PyProof.Rows PySem.Calls
namespace Mine
theorem lookup_rev_none {x : Str} : ∀ {ns : List Str} {vs : List Value}, x ∉ ns → (ns.zip vs).reverse.lookup x = none
  | [], vs, _ => by simp
  | n :: ns, [], _ => by simp
  | n :: ns, v :: vs, h => by
    simp only [List.mem_cons, not_or] at h
    have hb : (x == n) = false := by simpa using h.1
    rw [List.zip_cons_cons, List.reverse_cons, List.lookup_append, lookup_rev_none h.2]
    simp [List.lookup_cons, hb]
theorem lookup_rev {h : Heap} {x : Str} {d : D} : ∀ {ns : List Str} {ds : List D} {vs : List Value}, ns.Nodup → RVs h vs ds → lk x (ns.zip ds) = some d → ∃ v, (ns.zip vs).reverse.lookup x = some v ∧ RV h v d
  | [], ds, vs, _, _, e => by cases ds <;> cases e
  | n :: ns, [], vs, _, r, e => by cases e
  | n :: ns, d' :: ds, vs, hn, r, e => by
    obtain ⟨v, vs', rfl, rv, r'⟩ := r.inv_cons
    obtain ⟨h1, h2⟩ := List.nodup_cons.mp hn
    rw [List.zip_cons_cons, List.reverse_cons, List.lookup_append]
    rw [List.zip_cons_cons] at e
    unfold lk at e
    by_cases q : n = x
    · subst q
      rw [if_pos rfl] at e
      cases e
      exact ⟨v, by rw [lookup_rev_none h1]; simp [List.lookup_cons], rv⟩
    · rw [if_neg q] at e
      obtain ⟨w, a, b⟩ := lookup_rev h2 r' e
      exact ⟨w, by rw [a]; rfl, b⟩
theorem RVs.append {h : Heap} : ∀ {ds ds' : List D} {vs vs' : List Value}, RVs h vs ds → RVs h vs' ds' → RVs h (vs ++ vs') (ds ++ ds')
  | [], ds', vs, vs', a, b => by obtain rfl := a.inv_nil; exact b
  | d :: ds, ds', vs, vs', a, b => by
    obtain ⟨v, ws, rfl, rv, r'⟩ := a.inv_cons
    exact .cons rv (RVs.append r' b)
theorem lk_mem {x : Str} {d : D} : ∀ {ns : List Str} {ds : List D}, lk x (ns.zip ds) = some d → x ∈ ns
  | [], ds, e => by cases ds <;> cases e
  | n :: ns, [], e => by cases e
  | n :: ns, d' :: ds, e => by
    rw [List.zip_cons_cons] at e
    unfold lk at e
    by_cases q : n = x
    · subst q; exact .head _
    · rw [if_neg q] at e; exact .tail _ (lk_mem e)

section
variable {prog : Program} {w : World} {K : Frag} {n : Nat} {G : Ev}

/-- what is known of a def of the text -/
structure DefIs (K : Frag) (f : Str) (a : Addr) (names : List Str) (dds : List D) (body : List Stmt) (scope : Scope) (ar : Nat) : Prop where
  at' : nsIn K mainGlobals f = some (some (.ref a))
  ok : ∃ oc od osl name qual params dV kV doc pm an cdv ct, K.lookup a = some ⟨oc, od, .func (fnOf name qual params body scope dV kV doc pm an cdv ct), osl⟩ ∧ codeIn K cdv qual = true ∧
    ∃ dvs, (∀ h, K.In h → RVs h dvs dds) ∧ ∀ (s : Shared) (vs : List Value), K.In s.heap → vs.length = ar → BindsTo s (fnOf name qual params body scope dV kV doc pm an cdv ct) ⟨vs, []⟩ (names.zip (vs ++ dvs))
  nod : names.Nodup
  loc : names.all (isL scope) = true
  ncell : (scope.names.all fun x => match x.2 with | .cell => false | _ => true) = true
  co : scope.isCoroutine = false
  gen : scope.isGenerator = false
  kind : scope.kind = .function

theorem DefIs.loc' {K : Frag} {f : Str} {a : Addr} {names : List Str} {dds : List D} {body : List Stmt} {scope : Scope} {ar : Nat} (S : DefIs K f a names dds body scope ar) : ∀ x ∈ names, scope.names.lookup x = some .local :=
  fun x hx => isL_inv (List.all_eq_true.mp S.loc x hx)
theorem DefIs.ncell' {K : Frag} {f : Str} {a : Addr} {names : List Str} {dds : List D} {body : List Stmt} {scope : Scope} {ar : Nat} (S : DefIs K f a names dds body scope ar) : ∀ x ∈ scope.names, x.2 ≠ .cell :=
  fun x hx e => by have := List.all_eq_true.mp S.ncell x hx; rw [e] at this; cases this
theorem DefIs.known {f : Str} {a : Addr} {names : List Str} {dds : List D} {body : List Stmt} {scope : Scope} {ar : Nat} (S : DefIs K f a names dds body scope ar) : Known K f := by
  obtain ⟨oc, od, osl, name, qual, params, dV, kV, doc, pm, an, cdv, ct, ho, _⟩ := S.ok
  exact ⟨.ref a, .inl S.at', _, _, ho, rfl⟩

theorem spec_def {f : Str} {a : Addr} {names : List Str} {ds dds : List D} {body : List Stmt} {scope : Scope} {k : D → Prop} (hG : GOk K G) (S : DefIs K f a names dds body scope ds.length)
    (h : wps prog w K n scope G body (names.zip (ds ++ dds)) fun o => (match o with
      | .ret d => k d
      | .next _ => k .none
      | _ => False)) : Spec prog w K (n + 1) f ds k := by
  obtain ⟨oc, od, osl, name, qual, params, dV, kV, doc, pm, an, cdv, ct, ho, hcd, dvs, hdv, hb⟩ := S.ok
  refine ⟨.ref a, .inl S.at', ⟨_, _, ho, rfl⟩, fun A s vs Q R g r hq => ?_⟩
  have hr := R.dep
  have hu := R.un
  refine wpAny_call (codeAny_call_def (body := body) (by show A.depth < 1000; omega) (g.x _ _ ho) rfl g.lim (codeRec_of g.x hcd) rfl (hb s vs g.x r.length) S.ncell' (fun y hy => S.loc' _ ?_) (fun h₁ hns kp => ?_) S.co S.gen S.kind)
  · obtain ⟨i, hi, e⟩ := List.getElem_of_mem hy
    rw [List.getElem_zip] at e
    rw [← e]
    exact List.getElem_mem _
  have e0 : Ext s { s with heap := h₁, toks := s.toks + (names.zip (vs ++ dvs)).length } := ⟨⟨_, _, rfl⟩, kp⟩
  have I : Inn K s.heap s.heap.objs.size scope (names.zip (ds ++ dds)) { s with heap := h₁, toks := s.toks + (names.zip (vs ++ dvs)).length } :=
    { fr := ⟨_, ⟨hns, kp, Nat.le_refl _⟩, fun x d e => lookup_rev S.nod (RVs.kp kp (r.append (hdv _ g.x))) e⟩
      gd := g
      loc := fun x d e => S.loc' x (lk_mem e)
      kind := S.kind }
  have R' : Rm n (A.deeper (envOf qual scope s.heap.objs.size a cdv)) := ⟨R.hh, by show A.depth + 1 + n < 900; omega, by show A.units + 3 + 8 * n + 200 < cLine; omega⟩
  refine wpAny_mono (wps_sound hG body _ _ h (A.deeper (envOf qual scope s.heap.objs.size a cdv)) _ s.heap s.heap.objs.size qual a cdv
    (fun fl s' => Q (match fl with | .ret v => v | _ => .none) s') R' I fun fl s' o ho hf l => ?_) (fun _ _ x => x) fun _ _ x => x.elim
  obtain ⟨⟨h', t', rfl⟩, _⟩ := l
  cases o <;> cases fl <;> first | exact (hf : False).elim | exact (ho : False).elim | skip
  · obtain ⟨m, F, _⟩ := hf.fr
    exact hq _ _ _ ho .none ⟨⟨_, _, rfl⟩, F.keep⟩
  · obtain ⟨⟨m, F⟩, rv⟩ := hf
    exact hq _ _ _ ho rv ⟨⟨_, _, rfl⟩, F.keep⟩
end
end Mine

end
section
open PySem PySem.W PyProof.Rows PySem.Calls
namespace Mine
section
variable {prog : Program} {w : World} {K : Frag} {n : Nat} {sc : Scope} {G : Ev}
variable {A : Around} {E : Value → Shared → Prop} {s : Shared} {h₀ : Heap} {L fa : Addr} {nm : Str} {cd : Value} {ρ : Ev}

/-- a suite walked at its head, and what comes after -/
theorem wps_then (hG : GOk K G) : ∀ (st : List Stmt) (ρ : Ev) (k : Fl → Prop), wps prog w K n sc G st ρ k → ∀ (A : Around) (s : Shared) (h₀ : Heap) (L : Addr) (nm : Str) (fa : Addr) (cd : Value) (rest : List Stmt) (Q : Flow → Shared → Prop) (E : Value → Shared → Prop), Rm n A → Inn K h₀ L sc ρ s →
    (∀ f s' o, k o → FlR K h₀ L sc o f s' → Like L s s' → match f with | .next => wpAny (model prog w) A (execs rest (envOf nm sc L fa cd)) Q E s' | f => Q f s') →
    wpAny (model prog w) A (execs (st ++ rest) (envOf nm sc L fa cd)) Q E s
  | [], ρ, k, h => fun A s h₀ L nm fa cd rest Q E R I hq => hq .next s (.next ρ) h I (Like.refl _)
  | st :: r, ρ, k, h => fun A s h₀ L nm fa cd rest Q E R I hq => by
    refine wpAny_execs_cons ?_
    refine wpAny_mono (wp1_sound hG st ρ _ h A s h₀ L nm fa cd (fun f s₁ => ∃ o, (match o with | .next ρ' => wps prog w K n sc G r ρ' k | o => k o) ∧ FlR K h₀ L sc o f s₁ ∧ Like L s s₁) R I fun f s₁ o ho hf l₁ => ⟨o, ho, hf, l₁⟩) (fun f s₁ x => ?_) fun _ _ x => x.elim
    obtain ⟨o, ho, hf, l₁⟩ := x
    cases o <;> cases f <;> first | exact (hf : False).elim | skip
    · exact wps_then hG r _ k ho A s₁ h₀ L nm fa cd rest Q E R hf fun f s₂ o a b c => hq f s₂ o a b (l₁.trans c)
    · exact hq _ _ _ ho hf l₁
    · exact hq _ _ _ ho hf l₁
    · exact hq _ _ _ ho hf l₁
end
end Mine

end
section
open PySem PySem.W PyProof.Rows PySem.Calls
namespace Mine
/-! ## the stack of frames, and what an exception on its way leaves of the heap -/
def fsOf (l : List Env) : List Addr := l.filterMap (·.frame)
def Hid (l : List Env) (h : Heap) : Heap := hideAll h (fsOf l)
def FF (l : List Env) (h : Heap) : Prop := h.FunFrames (Hid l h) l
theorem hid_of {l : List Env} {h : Heap} {b : Addr} {o : Obj} (e : (Hid l h).get? b = some o) : h.get? b = some o ∧ b ∉ fsOf l :=
  ⟨of_hideAll _ e, fun m => by have := hideAll_none (h := h) (fsOf l) m; unfold Hid at e; rw [this] at e; cases e⟩
theorem hid_get {l : List Env} {h : Heap} {b : Addr} {o : Obj} (e : h.get? b = some o) (n : b ∉ fsOf l) : (Hid l h).get? b = some o := hideAll_get _ e n
theorem FF.of {l : List Env} {h base : Heap} (x : h.FunFrames base l) : FF l h :=
  funFrames_hide x fun env he a hf => List.mem_filterMap.mpr ⟨env, he, hf⟩
theorem FF.nil {h : Heap} : FF [] h := trivial
theorem FF.below {A : Around} {l : List Env} {h : Heap} (hs : A.frames = some l) (f : FF l h) : Below A (Hid l h) l h := ⟨hs, fun _ _ e => (hid_of e).1, f⟩
theorem FF.up {l : List Env} {h h' : Heap} (f : FF l h) (u : h.UpToSlots h') : FF l h' := .of (f.of_keeps fun b o e n => let ⟨_, x⟩ := u b o e n; ⟨_, x, rfl⟩)
theorem not_base {h₀ h : Heap} {L : Addr} {m : Str → Option Value} (F : Fr h₀ L h m) {o : Obj} (e : h₀.get? L = some o) : False := Nat.lt_irrefl _ (Nat.lt_of_lt_of_le (Heap.lt_size e) F.above)
theorem FF.push {l : List Env} {h₀ h : Heap} {L fa : Addr} {m : Str → Option Value} {nm : Str} {sc : Scope} {cd : Value} (f : FF l h) (F : Fr h₀ L h m) (hk : sc.kind = .function) : FF (envOf nm sc L fa cd :: l) h := by
  have f0 : h.FunFrames (Hid (envOf nm sc L fa cd :: l) h) l := by
    refine funFrames_hide f fun env he a hf => ?_
    exact List.mem_filterMap.mpr ⟨env, .tail _ he, hf⟩
  exact .cons (by show sc.kind ≠ .module; rw [hk]; decide) rfl F.ns (hideAll_none _ (by show L ∈ fsOf (envOf nm sc L fa cd :: l); exact List.mem_filterMap.mpr ⟨envOf nm sc L fa cd, .head _, rfl⟩)) f0
theorem mem_push {l : List Env} {L fa b : Addr} {nm : Str} {sc : Scope} {cd : Value} (h : b ∈ fsOf (envOf nm sc L fa cd :: l)) : b = L ∨ b ∈ fsOf l := kts_mem h

structure ExU (l : List Env) (s s' : Shared) : Prop where
  like : ∃ h t, s' = { s with heap := h, toks := t }
  stays : (Hid l s.heap).StaysIn s'.heap
  up : s.heap.UpToSlots s'.heap
theorem Ext.exu {l : List Env} {s s' : Shared} (x : Ext s s') : ExU l s s' := ⟨x.1, fun b o e => x.2 b o (hid_of e).1, Heap.UpToSlots.of_keeps x.2⟩
theorem ExU.refl {l : List Env} {s : Shared} : ExU l s s := (Ext.refl s).exu
theorem ExU.trans {l : List Env} {a b c : Shared} (x : ExU l a b) (y : ExU l b c) : ExU l a c := by
  refine ⟨?_, fun p o e => y.stays p o (hid_get (x.stays p o e) (hid_of e).2), x.up.trans y.up⟩
  obtain ⟨h, t, rfl⟩ := x.like
  obtain ⟨h', t', rfl⟩ := y.like
  exact ⟨h', t', rfl⟩
theorem isTup_up {h h' : Heap} {a : Addr} {vs : Array Value} (u : h.UpToSlots h') (x : IsTup h a vs) : IsTup h' a vs := by
  obtain ⟨o, e, c, n, d⟩ := x
  obtain ⟨sl, e'⟩ := u a o e fun ws q => by rw [d] at q; cases q
  exact ⟨_, e', c, n, d⟩
theorem isList_up {h h' : Heap} {a : Addr} {vs : Array Value} (u : h.UpToSlots h') (x : h.IsList a vs) : h'.IsList a vs := by
  obtain ⟨o, e, c, n, d⟩ := x
  obtain ⟨sl, e'⟩ := u a o e fun ws q => by rw [d] at q; cases q
  exact ⟨_, e', c, n, d⟩
theorem plainL_up {h h' : Heap} {a : Addr} {vs : Array Value} (u : h.UpToSlots h') (x : PlainL h a vs) : PlainL h' a vs := by
  obtain ⟨o, n, e, c, dn, d⟩ := x
  obtain ⟨sl, e'⟩ := u a o e fun ws q => by rw [d] at q; cases q
  exact ⟨_, n, e', c, dn, d⟩
mutual
theorem RV.up {h h' : Heap} (k : h.UpToSlots h') : ∀ {v : Value} {d : D}, RV h v d → RV h' v d
  | _, _, .none => .none
  | _, _, .bool b => .bool b
  | _, _, .int i t => .int i t
  | _, _, .str x t => .str x t
  | _, _, .tup a b => .tup (isTup_up k a) (RVs.up k b)
  | _, _, .lst a b => .lst (isList_up k a) (RVs.up k b)
  | _, _, .lat a b => .lat (plainL_up k a) (RVs.up k b)
  | _, _, .obj a => .obj a
  | _, _, .typ T => .typ T
theorem RVs.up {h h' : Heap} (k : h.UpToSlots h') : ∀ {v : List Value} {d : List D}, RVs h v d → RVs h' v d
  | _, _, .nil => .nil
  | _, _, .cons a b => .cons (RV.up k a) (RVs.up k b)
end
/-- nothing of h₀ is a frame -/
def Off (l : List Env) (h₀ : Heap) : Prop := ∀ b o, h₀.get? b = some o → b ∉ fsOf l
theorem off_hid {l : List Env} {h : Heap} : Off l (Hid l h) := fun _ _ e => (hid_of e).2
theorem off_nil {h : Heap} : Off [] h := fun _ _ _ m => nomatch m
theorem Off.push {l : List Env} {h₀ h : Heap} {L fa : Addr} {m : Str → Option Value} {nm : Str} {sc : Scope} {cd : Value} (f : Off l h₀) (F : Fr h₀ L h m) : Off (envOf nm sc L fa cd :: l) h₀ := fun b o e q => by
  rcases mem_push q with rfl | q
  · exact not_base F e
  · exact f b o e q
section
variable {prog : Program} {w : World} {K : Frag} {n : Nat} {sc : Scope} {G : Ev}
variable {A : Around} {E : Value → Shared → Prop} {s : Shared} {h₀ : Heap} {L fa : Addr} {nm : Str} {cd : Value} {ρ : Ev}

theorem Inn.exu {l : List Env} {s' : Shared} (I : Inn K h₀ L sc ρ s) (o : Off l h₀) (x : ExU l s s') : Inn K h₀ L sc ρ s' where
  fr := let ⟨m, F, r⟩ := I.fr; ⟨m, F.of_stays (fun b o' e => x.stays b o' (hid_get (F.keep b o' e) (o b o' e))) x.up, fun y d h => let ⟨v, a, b⟩ := r y d h; ⟨v, a, RV.up x.up b⟩⟩
  gd := I.gd
  loc := I.loc
  kind := I.kind
/-- a smaller ground -/
theorem Inn.ground {h₁ : Heap} (I : Inn K h₀ L sc ρ s) (g : Gd K h₁) (k : Kp h₁ h₀) (z : h₁.objs.size = h₀.objs.size) : Inn K h₁ L sc ρ s where
  fr := let ⟨m, F, r⟩ := I.fr; ⟨m, ⟨F.ns, fun b o e => F.keep b o (k b o e), by rw [z]; exact F.above⟩, r⟩
  gd := g
  loc := I.loc
  kind := I.kind
/-- what is on its way, and where -/
def Fly (l : List Env) (e : Addr) (cls : Value) (s s' : Shared) : Prop := ExU l s s' ∧ ∃ a0, Heap.FlyingW (Hid l s.heap) l e cls a0 s'.heap
/-- a call of a def of the text, exceptions and all -/
theorem call_gen {f : Str} {a : Addr} {names : List Str} {ds dds : List D} {body : List Stmt} {scope : Scope} {vs : List Value} {Q : Value → Shared → Prop} {ar : Nat} (S : DefIs K f a names dds body scope ar) (har : ar = ds.length)
    (R : Rm (n + 1) A) (g : Gd K s.heap) (r : RVs s.heap vs ds)
    (hb : ∀ s₁ L nm cd, Inn K s.heap L scope (names.zip (ds ++ dds)) s₁ → Ext s s₁ → s.heap.get? L = none → Rm n (A.deeper (envOf nm scope L a cd)) →
      wpAny (model prog w) (A.deeper (envOf nm scope L a cd)) (execs body (envOf nm scope L a cd)) (fun fl s' => Q (match fl with | .ret v => v | _ => .none) s')
        (fun e s' => wpAny (model prog w) (A.deeper (envOf nm scope L a cd)) (leaving (envOf nm scope L a cd) e) (fun _ s'' => E e s'') (fun e' s'' => E e' s'') s') s₁) :
    wpAny (model prog w) A (call (.ref a) vs) Q E s := by
  subst har
  obtain ⟨oc, od, osl, name, qual, params, dV, kV, doc, pm, an, cdv, ct, ho, hcd, dvs, hdv, hbd⟩ := S.ok
  have hr := R.dep
  have hu := R.un
  refine wpAny_call (codeAny_call_def (body := body) (by show A.depth < 1000; omega) (g.x _ _ ho) rfl g.lim (codeRec_of g.x hcd) rfl (hbd s vs g.x r.length) S.ncell' (fun y hy => S.loc' _ ?_) (fun h₁ hns kp => ?_) S.co S.gen S.kind)
  · obtain ⟨i, hi, e⟩ := List.getElem_of_mem hy
    rw [List.getElem_zip] at e
    rw [← e]
    exact List.getElem_mem _
  have e0 : Ext s { s with heap := h₁, toks := s.toks + (names.zip (vs ++ dvs)).length } := ⟨⟨_, _, rfl⟩, kp⟩
  have I : Inn K s.heap s.heap.objs.size scope (names.zip (ds ++ dds)) { s with heap := h₁, toks := s.toks + (names.zip (vs ++ dvs)).length } :=
    { fr := ⟨_, ⟨hns, kp, Nat.le_refl _⟩, fun x d e => lookup_rev S.nod (RVs.kp kp (r.append (hdv _ g.x))) e⟩
      gd := g
      loc := fun x d e => S.loc' x (lk_mem e)
      kind := S.kind }
  exact hb _ _ qual cdv I e0 (Heap.get?_none_of_le (Nat.le_refl _)) ⟨R.hh, by show A.depth + 1 + n < 900; omega, by show A.units + 3 + 8 * n + 200 < cLine; omega⟩
/-- a bare class raised: out of the frame -/
theorem leave_type {l : List Env} {g h : Heap} {e : Addr} {m : Str → Option Value} {X : String} {s' : Shared} {Q : Unit → Shared → Prop} {M : Model} (hs : A.frames = some l) (f : FF l g) (hx : Heap.NewExc h s'.heap e X) (F : Fr g L h m) (hk : sc.kind = .function)
    (hQ : ∀ h' a0, Heap.FlyingW (Hid l g) l e (.type X) a0 h' → g.UpToSlots h' → Q () { s' with heap := h' }) :
    wpAny M (A.deeper (envOf nm sc L fa cd)) (leaving (envOf nm sc L fa cd) (.ref e)) Q E s' :=
  leave_newK (f.below hs) hx F News.nil (fun h' R u => let ⟨_, a0, st, _, fl⟩ := R; hQ h' a0 (flyingW_base st fl) u) hk
/-- a class of the text, with its words -/
theorem leave_made {l : List Env} {g h : Heap} {e : Addr} {m : Str → Option Value} {cls : Value} {ws : List Value} {s' : Shared} {Q : Unit → Shared → Prop} {M : Model} (hs : A.frames = some l) (f : FF l g) (hx : Heap.MadeExcOf h s'.heap e cls ws) (F : Fr g L h m) (hk : sc.kind = .function)
    (hQ : ∀ h' a0, Heap.FlyingW (Hid l g) l e cls a0 h' → g.UpToSlots h' → Q () { s' with heap := h' }) :
    wpAny M (A.deeper (envOf nm sc L fa cd)) (leaving (envOf nm sc L fa cd) (.ref e)) Q E s' :=
  leave_raiseK (f.below hs) hx F News.nil (fun h' t R u => let ⟨⟨_, st, _, fl, _⟩, _⟩ := R; hQ h' _ (flyingW_base st fl) u) hk
/-- out of a frame that it only passes -/
theorem leave_pass {l : List Env} {e : Addr} {cls : Value} {s₁ s' : Shared} {Q : Unit → Shared → Prop} {M : Model} {g : Heap} {m : Str → Option Value} (hs : A.frames = some l) (F : Fr g L s₁.heap m) (x : Fly (envOf nm sc L fa cd :: l) e cls s₁ s')
    (hQ : ∀ h' a0, Heap.FlyingW (Hid l g) l e cls a0 h' → g.UpToSlots h' → Q () { s' with heap := h' }) :
    wpAny M (A.deeper (envOf nm sc L fa cd)) (leaving (envOf nm sc L fa cd) (.ref e)) Q E s' := by
  obtain ⟨xu, a0, fl⟩ := x
  have st : (Hid l g).StaysIn (Hid (envOf nm sc L fa cd :: l) s₁.heap) := fun b o q => by
    obtain ⟨q1, q2⟩ := hid_of q
    refine hid_get (F.keep b o q1) fun hm => ?_
    rcases mem_push hm with rfl | hm
    · exact not_base F q1
    · exact q2 hm
  exact wpAny_leaves_onW (Around.frames_deeper hs) rfl fl fun h' x1 x2 => hQ h' a0 (flyingW_base st x1) ((Heap.UpToSlots.of_keeps F.keep).trans (xu.up.trans x2))
end
end Mine

end
section
open PySem PySem.W PyProof.Rows PySem.Calls
namespace Mine
section
variable {prog : Program} {w : World} {K : Frag} {n : Nat} {sc : Scope} {G : Ev}
variable {A₀ : Around} {s s' : Shared} {h₀ : Heap} {L fa e : Addr} {nm : Str} {cd : Value} {ρ : Ev} {l : List Env}
variable {b₀ : Stmt} {suite : List Stmt} {pos np : Pos} {rest : List ExceptHandler} {Q : Flow → Shared → Prop} {x : Str} {X T : String}
/-- caught by a class of the language -/
theorem caught_type (hst : A₀.frames = some l) (I : Inn K h₀ L sc ρ s) (off : Off l h₀) (R : Fly (envOf nm sc L fa cd :: l) e (.type X) s s')
    (ld : LoadsTo K x (.type T)) (hx : isG sc x = true)
    (hexc : isSubtype (.type T) (.type "BaseException") = pure true) (hnt : isSubtype (.type ((Manifest.find? T).elim "type" fun y => y.metatype)) (.type "tuple") = pure false) (hsub : isSubtype (.type X) (.type T) = pure true)
    (k : ∀ s₂, ExU (envOf nm sc L fa cd :: l) s s₂ → Inn K h₀ L sc ρ s₂ →
      wpAny (model prog w) ((A₀.deeper (envOf nm sc L fa cd)).mark (some (.ref e))) (execs (b₀ :: suite) (envOf nm sc L fa cd)) Q (fun _ _ => False) s₂) :
    wpAny (model prog w) (A₀.deeper (envOf nm sc L fa cd)) (noteFrame (.ref e) (envOf nm sc L fa cd))
      (fun _ s₂ => wpAny (model prog w) (A₀.deeper (envOf nm sc L fa cd)) (setFlight (.ref e) none) (fun _ s₃ =>
        wpAny (model prog w) (A₀.deeper (envOf nm sc L fa cd)) (handleBy (.ref e) (envOf nm sc L fa cd) (.ExceptHandler (some (.Name x np)) none (b₀ :: suite) pos :: rest)) Q (fun _ _ => False) s₃) (fun _ _ => False) s₂) (fun _ _ => False) s' := by
  obtain ⟨xu, a0, fl⟩ := R
  have off' : Off (envOf nm sc L fa cd :: l) h₀ := let ⟨_, F, _⟩ := I.fr; off.push F
  refine wpAny_looks_onW (Around.frames_deeper hst) rfl fl fun h₄ hheld₄ hsm₄ => ?_
  refine wpAny_landsW hheld₄ fun h₅ hheld hsm₅' => ?_
  have x5 : ExU (envOf nm sc L fa cd :: l) s { s' with heap := h₅ } := ⟨let ⟨h, t, e⟩ := xu.like; ⟨h₅, t, by rw [e]⟩, hheld.1, xu.up.trans (hsm₄.trans hsm₅')⟩
  have I5 := I.exu off' x5
  obtain ⟨ob, hob, hobc⟩ := hheld.there
  refine wpAny_handleBy_builtin (X := X) (T := T) (b := true) hexc hnt hsub (load_global I5.here ld I.kind hx ⟨rfl, ⟨ob, hob, hobc⟩, ?_⟩)
  refine lands_againW hheld fun h₆ hfl₆ hsm₆ => ?_
  have x6 : ExU (envOf nm sc L fa cd :: l) s { s' with heap := h₆ } := ⟨let ⟨h, t, e⟩ := xu.like; ⟨h₆, t, by rw [e]⟩, hfl₆.1, xu.up.trans ((hsm₄.trans hsm₅').trans hsm₆)⟩
  exact wpAny_passesOwnAt PassesOwnAt.never (k _ x6 (I.exu off' x6))
/-- caught by a class of the text -/
theorem caught_own {C : Addr} {bmB : List Value} {newId : String} (hst : A₀.frames = some l) (I : Inn K h₀ L sc ρ s) (off : Off l h₀) (R : Fly (envOf nm sc L fa cd :: l) e (.ref C) s s')
    (ld : LoadsTo K x (.ref C)) (hx : isG sc x = true)
    (hC : ∀ h, K.In h → ∃ nm' qn N bs bm hdct sn sub ab col dd k0 k1 k2 k3 k5, h.get? C = some (excClassObj nm' qn C N bs bm hdct sn sub ab col dd k0 k1 k2 k3 k5 newId) ∧ bm.contains (.type "BaseException") = true)
    (k : ∀ s₂, ExU (envOf nm sc L fa cd :: l) s s₂ → Inn K h₀ L sc ρ s₂ →
      wpAny (model prog w) ((A₀.deeper (envOf nm sc L fa cd)).mark (some (.ref e))) (execs (b₀ :: suite) (envOf nm sc L fa cd)) Q (fun _ _ => False) s₂) :
    wpAny (model prog w) (A₀.deeper (envOf nm sc L fa cd)) (noteFrame (.ref e) (envOf nm sc L fa cd))
      (fun _ s₂ => wpAny (model prog w) (A₀.deeper (envOf nm sc L fa cd)) (setFlight (.ref e) none) (fun _ s₃ =>
        wpAny (model prog w) (A₀.deeper (envOf nm sc L fa cd)) (handleBy (.ref e) (envOf nm sc L fa cd) (.ExceptHandler (some (.Name x np)) none (b₀ :: suite) pos :: rest)) Q (fun _ _ => False) s₃) (fun _ _ => False) s₂) (fun _ _ => False) s' := by
  obtain ⟨xu, a0, fl⟩ := R
  have off' : Off (envOf nm sc L fa cd :: l) h₀ := let ⟨_, F, _⟩ := I.fr; off.push F
  refine wpAny_looks_onW (Around.frames_deeper hst) rfl fl fun h₄ hheld₄ hsm₄ => ?_
  refine wpAny_landsW hheld₄ fun h₅ hheld hsm₅' => ?_
  have x5 : ExU (envOf nm sc L fa cd :: l) s { s' with heap := h₅ } := ⟨let ⟨h, t, e⟩ := xu.like; ⟨h₅, t, by rw [e]⟩, hheld.1, xu.up.trans (hsm₄.trans hsm₅')⟩
  have I5 := I.exu off' x5
  obtain ⟨ob, hob, hobc⟩ := hheld.there
  refine wpAny_handleBy_cons (codeAny_handlers_test (load_global I5.here ld I.kind hx ?_)) (by intro q; cases q)
  obtain ⟨nm', qn, N, bs, bm, hdct, sn, sub, ab, col, dd, k0, k1, k2, k3, k5, hC, hbase⟩ := hC _ I5.here.x
  refine wpAny_excMatches_sub_self hC hob hobc hbase (codeAny_handlers_suite ?_)
  refine lands_againW hheld fun h₆ hfl₆ hsm₆ => ?_
  have x6 : ExU (envOf nm sc L fa cd :: l) s { s' with heap := h₆ } := ⟨let ⟨h, t, e⟩ := xu.like; ⟨h₆, t, by rw [e]⟩, hfl₆.1, xu.up.trans ((hsm₄.trans hsm₅').trans hsm₆)⟩
  exact wpAny_passesOwnAt PassesOwnAt.never (k _ x6 (I.exu off' x6))
end
end Mine

end
section
open PySem PySem.W PyProof.Rows PySem.Calls
namespace Mine
mutual
def nl : D → Bool
  | .list _ => false
  | .dict _ => false
  | .tuple ds => nls ds
  | _ => true
def nls : List D → Bool
  | [] => true
  | d :: r => nl d && nls r
end
/-- a list at a known place -/
def lat (a : Addr) (ds : List D) : D := .dict [(.int a, .list ds)]
theorem lat_inv {h : Heap} {v : Value} {a : Addr} {ds : List D} (r : RV h v (lat a ds)) : v = .ref a ∧ ∃ vs, PlainL h a vs ∧ RVs h vs.toList ds := by
  unfold lat at r
  generalize hd : (PyData.dict [(.int (a : Int), .list ds)]) = d at r
  cases r with
  | lat x y =>
    injection hd with e
    injection e with e1 _
    injection e1 with e2 e3
    injection e2 with e4
    injection e3 with e5
    have : a = _ := Int.ofNat.inj e4
    subst this; subst e5
    exact ⟨rfl, _, x, y⟩
  | _ => first | cases hd | (injection hd with e; injection e with e1 _; injection e1 with e2 e3; first | cases e2 | cases e3)
mutual
theorem RV.but {h h' : Heap} {a : Addr} {vs : Array Value} (hl : h.IsList a vs) (k : ∀ b o, b ≠ a → h.get? b = some o → h'.get? b = some o) : ∀ {v : Value} {d : D}, RV h v d → nl d = true → RV h' v d
  | _, _, .none, _ => .none
  | _, _, .bool b, _ => .bool b
  | _, _, .int i t, _ => .int i t
  | _, _, .str x t, _ => .str x t
  | _, _, .tup x y, n => by
    obtain ⟨o, h1, h2, q, h3⟩ := x
    refine .tup ⟨o, k _ _ (fun e => ?_) h1, h2, q, h3⟩ (RVs.but hl k y (by simpa [nl] using n))
    subst e
    obtain ⟨o', g1, g2, _⟩ := hl
    rw [h1] at g1; cases g1
    rw [h2] at g2
    injection g2 with q
    exact absurd q (by decide)
  | _, _, .lst x y, n => by simp [nl] at n
  | _, _, .lat x y, n => by simp [nl] at n
  | _, _, .obj a, n => by simp [nl] at n
  | _, _, .typ T, n => by simp [nl] at n
theorem RVs.but {h h' : Heap} {a : Addr} {vs : Array Value} (hl : h.IsList a vs) (k : ∀ b o, b ≠ a → h.get? b = some o → h'.get? b = some o) : ∀ {v : List Value} {d : List D}, RVs h v d → nls d = true → RVs h' v d
  | _, _, .nil, _ => .nil
  | _, _, .cons a b, n => by
    simp only [nls, Bool.and_eq_true] at n
    exact .cons (RV.but hl k a n.1) (RVs.but hl k b n.2)
end
section
variable {prog : Program} {w : World} {K : Frag} {n : Nat} {sc : Scope} {G : Ev}
variable {A : Around} {E : Value → Shared → Prop} {s : Shared} {h₀ : Heap} {L fa af : Addr} {nm : Str} {cd : Value} {ρ : Ev}
theorem append_stmt {x y : Str} {is : List D} {i : Int} {p p2 apos pos epos : PySem.Pos} {Q : Flow → Shared → Prop} (I : Inn K h₀ L sc ρ s) (hx : lk x ρ = some (lat af is)) (hy : lk y ρ = some (.int i))
    (hdx : (x == ("__debug__" : Str)) = false) (hdy : (y == ("__debug__" : Str)) = false) (hline : (apos.endLine == pos.line) = true) (fresh : h₀.get? af = none) (hn : nls is = true) (hρ : ∀ z d, z ≠ x → lk z ρ = some d → nl d = true) (hsz : is.length ≤ 1000)
    (hq : ∀ s', Inn K h₀ L sc (up x (lat af (is ++ [.int i])) ρ) s' → (∀ b o, b ≠ af → s.heap.get? b = some o → s'.heap.get? b = some o) → (∃ h t, s' = { s with heap := h, toks := t }) → Q .next s') :
    wpAny (model prog w) A (exec (.Expr (.Call (.Attribute (.Name x p) "append" apos) [.Name y p2] [] pos) epos) (envOf nm sc L fa cd)) Q E s := by
  have hi : interactive (envOf nm sc L fa cd) = false := by
    show (sc.kind == .module && _) = false
    rw [I.kind]; rfl
  refine wpAny_Expr (wpAny_Call_append rfl rfl hline rfl (load_local I hx hdx fun v rv => ?_)) hi
  obtain ⟨rfl, vs, pl, rvs⟩ := lat_inv rv
  refine ⟨af, vs, rfl, pl, load_local I hy hdy fun u ru => ?_⟩
  obtain ⟨t, rfl⟩ := ru.int_inv
  have hvs : vs.toList.length = is.length := rvs.length
  refine list_append_plainL pl (fun h' pl' sb => ?_) (by have : vs.size = is.length := by simpa using hvs
                                                         rw [this]; exact Nat.le_trans hsz (by decide))
  dsimp only
  have keep : ∀ b o, b ≠ af → s.heap.get? b = some o → h'.get? b = some o := fun b o hb e => (sb.2 b hb).trans e
  obtain ⟨m, F, r⟩ := I.fr
  have hL : L ≠ af := fun e => by
    obtain ⟨o, es, ep, ho, hd, _⟩ := F.ns
    obtain ⟨o', n', ho', _, _, hd'⟩ := pl
    rw [e, ho'] at ho; cases ho
    rw [hd] at hd'; cases hd'
  refine hq _ ⟨⟨m, ⟨F.ns.at fun o e => keep _ _ hL e, fun b o e => keep b o (fun z => by rw [z, fresh] at e; cases e) (F.keep b o e), F.above⟩, fun z d e => ?_⟩, I.gd, fun z d e => ?_, I.kind⟩ keep ⟨_, _, rfl⟩
  · rw [lk_up] at e
    by_cases q : x = z
    · subst q
      rw [if_pos rfl] at e
      cases e
      obtain ⟨v, hv, rv'⟩ := r x _ hx
      obtain ⟨rfl, _⟩ := lat_inv rv'
      refine ⟨_, hv, .lat pl' ?_⟩
      rw [Array.toList_push]
      exact (RVs.but pl.isList keep rvs hn).append (.cons (.int _ _) .nil)
    · rw [if_neg q] at e
      obtain ⟨v, hv, rv'⟩ := r z d e
      exact ⟨v, hv, RV.but pl.isList keep rv' (hρ z d (Ne.symm q) e)⟩
  · rw [lk_up] at e
    by_cases q : x = z
    · subst q; exact I.loc x _ hx
    · rw [if_neg q] at e; exact I.loc z d e
end
end Mine

end
section
open PySem PySem.W PyProof.Rows PySem.Calls
namespace Mine
mutual
theorem RV.seq {h h' : Heap} (k : ∀ b o vs n, h.get? b = some o → o.data = .seq vs n → h'.get? b = some o) : ∀ {v : Value} {d : D}, RV h v d → RV h' v d
  | _, _, .none => .none
  | _, _, .bool b => .bool b
  | _, _, .int i t => .int i t
  | _, _, .str x t => .str x t
  | _, _, .tup a b => by obtain ⟨o, h1, h2, n, h3⟩ := a; exact .tup ⟨o, k _ _ _ _ h1 h3, h2, n, h3⟩ (RVs.seq k b)
  | _, _, .lst a b => by obtain ⟨o, h1, h2, n, h3⟩ := a; exact .lst ⟨o, k _ _ _ _ h1 h3, h2, n, h3⟩ (RVs.seq k b)
  | _, _, .lat a b => by obtain ⟨o, n, h1, h2, h4, h3⟩ := a; exact .lat ⟨o, n, k _ _ _ _ h1 h3, h2, h4, h3⟩ (RVs.seq k b)
  | _, _, .obj a => .obj a
  | _, _, .typ T => .typ T
theorem RVs.seq {h h' : Heap} (k : ∀ b o vs n, h.get? b = some o → o.data = .seq vs n → h'.get? b = some o) : ∀ {v : List Value} {d : List D}, RVs h v d → RVs h' v d
  | _, _, .nil => .nil
  | _, _, .cons a b => .cons (RV.seq k a) (RVs.seq k b)
end
theorem RVs.get' {h : Heap} : ∀ {ds : List D} {vs : List Value} {i : Nat} {v : Value}, RVs h vs ds → vs[i]? = some v → ∃ d, ds[i]? = some d ∧ RV h v d
  | [], vs, i, d, r, e => by obtain rfl := r.inv_nil; cases e
  | d' :: ds, vs, i, d, r, e => by
    obtain ⟨v, vs', rfl, a, r'⟩ := r.inv_cons
    cases i with
    | zero => simp at e; subst e; exact ⟨d', rfl, a⟩
    | succ i => simp at e; simpa using r'.get' e
/-- the ground's own cells are kept up to slots -/
def UpFrom (L : Addr) (h h' : Heap) : Prop := ∀ g : Heap, g.UpToSlots h → g.get? L = none → g.UpToSlots h'
theorem UpFrom.refl {L : Addr} {h : Heap} : UpFrom L h h := fun _ u _ => u
theorem UpFrom.trans {L : Addr} {a b c : Heap} (x : UpFrom L a b) (y : UpFrom L b c) : UpFrom L a c := fun g u n => y g (x g u n) n
theorem UpFrom.of_up {L : Addr} {a b : Heap} (x : a.UpToSlots b) : UpFrom L a b := fun _ u _ => u.trans x
theorem UpFrom.of_like {L : Addr} {s s' : Shared} (x : Like L s s') : UpFrom L s.heap s'.heap := fun g u n b o e q => by
  obtain ⟨sl, h⟩ := u b o e q
  exact ⟨sl, x.2 b _ (fun z => by rw [z, n] at e; cases e) h⟩
theorem like_sh {a b c : Shared} (x : ∃ h t, b = { a with heap := h, toks := t }) (y : ∃ h t, c = { b with heap := h, toks := t }) : ∃ h t, c = { a with heap := h, toks := t } := by
  obtain ⟨h, t, rfl⟩ := x
  obtain ⟨h', t', rfl⟩ := y
  exact ⟨h', t', rfl⟩
section
variable {prog : Program} {w : World} {K : Frag} {n : Nat} {sc : Scope} {G : Ev}
variable {A : Around} {s : Shared} {h₀ : Heap} {L fa : Addr} {nm : Str} {cd : Value} {ρ : Ev}
/-- a change that leaves all but one record -/
theorem Inn.rcd {it : Addr} {h' : Heap} {t : Nat} (I : Inn K h₀ L sc ρ s) (fresh : h₀.get? it = none) (hf : ∃ o vs, s.heap.get? it = some o ∧ o.data = .fields vs) (k : ∀ b o, b ≠ it → s.heap.get? b = some o → h'.get? b = some o) :
    Inn K h₀ L sc ρ { s with heap := h', toks := t } ∧ s.heap.UpToSlots h' := by
  have u : s.heap.UpToSlots h' := fun b o e q => ⟨o.slots, k b o (fun z => by
    obtain ⟨o', vs, e', d⟩ := hf
    rw [z, e'] at e; cases e
    exact q vs d) e⟩
  refine ⟨⟨?_, I.gd, I.loc, I.kind⟩, u⟩
  obtain ⟨m, F, r⟩ := I.fr
  exact ⟨m, F.of_stays (fun b o e => k b o (fun z => by rw [z, fresh] at e; cases e) (F.keep b o e)) u, fun y d h => let ⟨v, a, b⟩ := r y d h; ⟨v, a, RV.up u b⟩⟩
theorem for_rule (hG : GOk K G) {x : Str} {iter : PySem.Expr} {body : List Stmt} {p pos : PySem.Pos} {ds : List D} {P : Nat → Ev → Prop} {Q : Flow → Shared → Prop} (hx : isL sc x = true) (R : Rm n A) (I : Inn K h₀ L sc ρ s)
    (hs : ∀ y, foldedSetIterable iter (envOf nm sc L fa cd) y = pure y)
    (hiter : ∀ Q' : Value → Shared → Prop, (∀ s₁ l items, Ext s s₁ → s₁.heap.IsList l items → RVs s₁.heap items.toList ds → Q' (.ref l) s₁) → wpAny (model prog w) A (eval iter (envOf nm sc L fa cd)) Q' (fun _ _ => False) s)
    (h0 : P 0 ρ)
    (turn : ∀ i d ρ', ds[i]? = some d → P i ρ' → wps prog w K n sc G body (up x d ρ') (fun o => ∃ ρ3, o = .next ρ3 ∧ P (i + 1) ρ3))
    (hq : ∀ s' ρ', P ds.length ρ' → Inn K h₀ L sc ρ' s' → (∃ h t, s' = { s with heap := h, toks := t }) → UpFrom L s.heap s'.heap → Q .next s') :
    wpAny (model prog w) A (exec (.For (.Name x p) iter body [] pos) (envOf nm sc L fa cd)) Q (fun _ _ => False) s := by
  refine wpAny_For (hiter _ fun s₁ l items ex hl rv => ?_) hs
  refine wpAny_pyIter_list hl ?_
  have hz : items.size = ds.length := by have := rv.length; simpa using this
  have I₁ := I.ext ex
  have kp : Kp s₁.heap (s₁.heap.push { cls := .type "list_iterator", data := .fields #[.ref l, .int 0 0] }) := Kp.push _ _
  have ex₂ : Ext s₁ { s₁ with heap := s₁.heap.push { cls := .type "list_iterator", data := .fields #[.ref l, .int 0 0] } } := ⟨⟨_, _, rfl⟩, kp⟩
  have fresh : h₀.get? s₁.heap.objs.size = none := by
    obtain ⟨m, F, _⟩ := I₁.fr
    refine Heap.get?_none_of_le (Nat.le_trans F.above (Nat.le_of_lt ?_))
    exact F.ns.lt
  have itL : s₁.heap.objs.size ≠ L := by
    obtain ⟨m, F, _⟩ := I₁.fr
    exact Nat.ne_of_gt F.ns.lt
  have itl : s₁.heap.objs.size ≠ l := by
    obtain ⟨o, e, _⟩ := hl
    exact Nat.ne_of_gt (Heap.lt_size e)
  refine codeAny_forLoop_any (fun j s' => ∃ i ρ', j = items.size + 1 - i ∧ i ≤ items.size ∧ s'.heap.IsListIter s₁.heap.objs.size l i ∧ s'.heap.IsList l items ∧ RVs s'.heap items.toList ds ∧ P i ρ' ∧ Inn K h₀ L sc ρ' s' ∧ (∃ h t, s' = { s with heap := h, toks := t }) ∧ UpFrom L s.heap s'.heap) ?_ (items.size + 1)
    ⟨0, ρ, rfl, Nat.zero_le _, ⟨_, Heap.get?_push_size _ rfl, rfl, rfl⟩, isList_kp hl kp, RVs.kp kp rv, h0, I₁.ext ex₂, like_sh ex.1 ex₂.1, (UpFrom.of_up (Heap.UpToSlots.of_keeps ex.2)).trans (UpFrom.of_up (Heap.UpToSlots.of_keeps kp))⟩
  rintro j s' ⟨i, ρ', rfl, hi, hit, hl', rv', hP, I', lk', up'⟩
  cases hv : items[i]? with
  | none =>
    have hiz : i = ds.length := by
      have := (Array.getElem?_eq_none_iff).mp hv
      omega
    subst hiz
    refine wpAny_pyNext_list_end R.hh hit hl' hv fun h' hk => wpAny_execs_nil ?_
    obtain ⟨oi, ei, ci, di⟩ := hit
    obtain ⟨I'', u''⟩ := I'.rcd (t := s'.toks) fresh ⟨oi, _, ei, di⟩ (fun b o nb e => hk b o nb e)
    exact hq _ ρ' hP I'' (like_sh lk' ⟨_, _, rfl⟩) (up'.trans (UpFrom.of_up u''))
  | some v =>
    have hlt : i < items.size := (Array.getElem?_eq_some_iff.mp hv).1
    obtain ⟨d, hd, rvd⟩ := rv'.get' (i := i) (v := v) (by simpa using hv)
    refine wpAny_pyNext_list_item hit hl' hv fun h' hit' hk => ?_
    obtain ⟨oi, ei, ci, di⟩ := hit
    obtain ⟨I'', u''⟩ := I'.rcd (t := s'.toks) fresh ⟨oi, _, ei, di⟩ (fun b o nb e => (hk.2 b nb).trans e)
    refine wpAny_pure ?_
    refine wpAny_assign_Name (store_local I'' (isL_inv hx) (RV.up u'' rvd) fun s₃ I₃ lk₃ keep₃ => ?_)
    refine wpAny_mono (wps_sound hG body (up x d ρ') _ (turn i d ρ' hd hP) A s₃ h₀ L nm fa cd (fun f s₄ => f = .next ∧ ∃ ρ3, P (i + 1) ρ3 ∧ Inn K h₀ L sc ρ3 s₄ ∧ Like L s₃ s₄) R I₃ fun f s₄ o ho hf lk₄ => ?_) (fun f s₄ x4 => ?_) fun _ _ x => x.elim
    · obtain ⟨ρ3, rfl, hP3⟩ := ho
      cases f <;> first | exact (hf : False).elim | skip
      exact ⟨rfl, ρ3, hP3, hf, lk₄⟩
    · obtain ⟨rfl, ρ3, hP3, I₄, lk₄⟩ := x4
      dsimp only
      have lk34 := lk₃.trans lk₄
      have hlL : l ≠ L := by
        obtain ⟨m, F, _⟩ := I''.fr
        obtain ⟨o, es, ep, ho, hdd, _⟩ := F.ns
        obtain ⟨ol, el, cl, nl', dl⟩ := isList_up u'' hl'
        intro z
        rw [z, ho] at el; cases el
        rw [hdd] at dl; cases dl
      have rv3 : RVs s₄.heap items.toList ds := RVs.seq (fun b o vs n e d => lk34.2 b o (fun z => by
        obtain ⟨m, F, _⟩ := I''.fr
        obtain ⟨o', es, ep, ho, hdd, _⟩ := F.ns
        rw [z, ho] at e; cases e
        rw [hdd] at d; cases d) e) (RVs.up u'' rv')
      obtain ⟨o2, e2, r2⟩ := hit'
      obtain ⟨o3, e3, r3⟩ := isList_up u'' hl'
      exact ⟨items.size + 1 - (i + 1), by omega, i + 1, ρ3, rfl, hlt, ⟨o2, lk34.2 _ _ itL e2, r2⟩, ⟨o3, lk34.2 _ _ hlL e3, r3⟩, rv3, hP3, I₄, like_sh (like_sh lk' ⟨_, _, rfl⟩) lk34.1, (up'.trans (UpFrom.of_up u'')).trans (UpFrom.of_like lk34)⟩
end
end Mine

end
section
open PySem PySem.W PyProof.Rows PySem.Calls
namespace Mine
section
variable {prog : Program} {w : World} {K : Frag} {n : Nat} {sc : Scope} {G : Ev}
variable {A : Around} {s : Shared} {h₀ : Heap} {L fa : Addr} {nm : Str} {cd : Value} {ρ : Ev}
theorem Inn.up2 {h' : Heap} {t : Nat} (I : Inn K h₀ L sc ρ s) (k : ∀ b o, h₀.get? b = some o → s.heap.get? b = some o → h'.get? b = some o) (u : s.heap.UpToSlots h') : Inn K h₀ L sc ρ { s with heap := h', toks := t } where
  fr := let ⟨m, F, r⟩ := I.fr; ⟨m, F.of_stays (fun b o e => k b o e (F.keep b o e)) u, fun y d h => let ⟨v, a, b⟩ := r y d h; ⟨v, a, RV.up u b⟩⟩
  gd := I.gd
  loc := I.loc
  kind := I.kind
theorem for_enum {x y : Str} {iter : PySem.Expr} {body : List Stmt} {p1 p2 p3 pos : PySem.Pos} {j : Nat} {ds : List D} {P : Nat → Ev → Prop} {Q : Flow → Shared → Prop} (hx : isL sc x = true) (hy : isL sc y = true) (R : Rm n A) (I : Inn K h₀ L sc ρ s)
    (hs : ∀ y, foldedSetIterable iter (envOf nm sc L fa cd) y = pure y)
    (hiter : ∀ Q' : Value → Shared → Prop, (∀ s₁ e it l items, Ext s s₁ → IsEnum s₁.heap e it 0 .none → s₁.heap.IsListIter it l 0 → s₁.heap.IsList l items → RVs s₁.heap items.toList ds → e ≠ it → s.heap.get? e = none → s.heap.get? it = none → Q' (.ref e) s₁) → wpAny (model prog w) A (eval iter (envOf nm sc L fa cd)) Q' (fun _ _ => False) s)
    (h0 : P 0 ρ)
    (turn : ∀ i d ρ' s', ds[i]? = some d → P i ρ' → Inn K h₀ L sc (up y d (up x (.int i) ρ')) s' →
      wpAny (model prog w) A (execs body (envOf nm sc L fa cd)) (fun f s₂ => f = .next ∧ ∃ ρ3, P (i + 1) ρ3 ∧ Inn K h₀ L sc ρ3 s₂ ∧ Like L s' s₂) (fun _ _ => False) s')
    (hq : ∀ s' ρ', P ds.length ρ' → Inn K h₀ L sc ρ' s' → (∃ h t, s' = { s with heap := h, toks := t }) → Q .next s') :
    wpAny (model prog w) A (exec (.For (.Tuple [.Name x p1, .Name y p2] j p3) iter body [] pos) (envOf nm sc L fa cd)) Q (fun _ _ => False) s := by
  refine wpAny_For (hiter _ fun s₁ e it l items ex he hit hl rv hei fe fi => ?_) hs
  refine wpAny_pyIter_enum he ?_
  have hz : items.size = ds.length := by have := rv.length; simpa using this
  have I₁ := I.ext ex
  obtain ⟨m0, F0, _⟩ := I.fr
  have nob : ∀ {b : Addr}, s.heap.get? b = none → h₀.get? b = none := fun {b} hb => by
    cases q : h₀.get? b with
    | none => rfl
    | some o => have := F0.keep _ _ q; rw [hb] at this; cases this
  have frE := nob fe
  have frI := nob fi
  have Lsome : ∃ o, s.heap.get? L = some o := let ⟨o, _, _, ho, _⟩ := F0.ns; ⟨o, ho⟩
  have eL : e ≠ L := fun z => by obtain ⟨o, ho⟩ := Lsome; rw [← z, fe] at ho; cases ho
  have iL : it ≠ L := fun z => by obtain ⟨o, ho⟩ := Lsome; rw [← z, fi] at ho; cases ho
  refine codeAny_forLoop_any (fun j s' => ∃ (i : Nat) (old : Value) (ρ' : Ev), j = items.size + 1 - i ∧ i ≤ items.size ∧ IsEnum s'.heap e it (i : Int) old ∧ s'.heap.IsListIter it l i ∧ s'.heap.IsList l items ∧ RVs s'.heap items.toList ds ∧ P i ρ' ∧ Inn K h₀ L sc ρ' s' ∧ (∃ h t, s' = { s with heap := h, toks := t })) ?_ (items.size + 1)
    ⟨0, .none, ρ, rfl, Nat.zero_le _, he, hit, hl, rv, h0, I₁, ex.1⟩
  rintro j s' ⟨i, old, ρ', rfl, hi, he', hit', hl', rv', hP, I', lk'⟩
  cases hv : items[i]? with
  | none =>
    have hiz : i = ds.length := by
      have := (Array.getElem?_eq_none_iff).mp hv
      omega
    subst hiz
    refine wpAny_pyNext_enum_end R.hh he' hit' hl' hv fun h' hk => wpAny_execs_nil ?_
    obtain ⟨oi, ei, ci, di⟩ := hit'
    obtain ⟨I'', u''⟩ := I'.rcd (t := s'.toks) frI ⟨oi, _, ei, di⟩ (fun b o nb e => hk b o nb e)
    exact hq _ ρ' hP I'' (like_sh lk' ⟨_, _, rfl⟩)
  | some v =>
    have hlt : i < items.size := (Array.getElem?_eq_some_iff.mp hv).1
    obtain ⟨d, hd, rvd⟩ := rv'.get' (i := i) (v := v) (by simpa using hv)
    refine wpAny_pyNext_enum_item he' hit' hl' hv hei fun h₁ heo hit₁ ht₁ hz₁ hk₁ => ?_
    refine wpAny_letOwnedTupleGo_enum heo fun h₂ he₂ hs₂ => ?_
    have hs₂ : Heap.SameBut e h₁ h₂ := hs₂
    obtain ⟨oi, ei, ci, di⟩ := id hit'
    have ne_e : ∀ {b : Addr} {o : Obj}, s'.heap.get? b = some o → (∀ vs, o.data ≠ .fields vs) → b ≠ e := fun {b o} hb hn z => by
      rw [z, he'] at hb; cases hb; exact hn _ rfl
    have ne_i : ∀ {b : Addr} {o : Obj}, s'.heap.get? b = some o → (∀ vs, o.data ≠ .fields vs) → b ≠ it := fun {b o} hb hn z => by
      rw [z, ei] at hb; cases hb; exact hn _ di
    have keep2 : ∀ b o, b ≠ e → b ≠ it → s'.heap.get? b = some o → h₂.get? b = some o := fun b o n1 n2 hb => (hs₂.2 b n1).trans (hk₁ b o n1 n2 hb)
    have u2 : s'.heap.UpToSlots h₂ := fun b o hb hn => ⟨o.slots, keep2 b o (ne_e hb hn) (ne_i hb hn) hb⟩
    have I₂ : Inn K h₀ L sc ρ' { s' with heap := h₂, toks := s'.toks + 1 } := I'.up2 (fun b o g hb => keep2 b o (fun z => by rw [z, frE] at g; cases g) (fun z => by rw [z, frI] at g; cases g) hb) u2
    have szE : e < s'.heap.objs.size := Heap.lt_size he'
    have ht₂ : h₂.IsTuple s'.heap.objs.size #[.int i s'.toks, v] := ⟨_, (hs₂.2 _ (Nat.ne_of_gt szE)).trans ht₁, rfl, _, rfl⟩
    refine wpAny_assign_Tuple R.hh ht₂ rfl rfl fun h₃ hx₃ => ?_
    have hx₃ : Heap.ExtBut h₂.objs.size h₂ h₃ := hx₃
    have k3 : Kp h₂ h₃ := kp_extBut hx₃
    have I₃ : Inn K h₀ L sc ρ' { s' with heap := h₃, toks := s'.toks + 1 } := I₂.ext ⟨⟨_, _, rfl⟩, k3⟩
    have u3 : s'.heap.UpToSlots h₃ := u2.trans (Heap.UpToSlots.of_keeps k3)
    show wpAny _ A (do holding [v] (assign (.Name x p1) (envOf nm sc L fa cd) (.int i s'.toks)); do holding [] (assign (.Name y p2) (envOf nm sc L fa cd) v); pure ()) _ _ _
    refine wpAny_bind (wpAny_holding (wpAny_assign_Name (store_local I₃ (isL_inv hx) (.int _ _) fun s₄ I₄ lk₄ keep₄ => ?_)))
    refine wpAny_bind (wpAny_holding (wpAny_assign_Name (store_local I₄ (isL_inv hy) (keep₄ _ _ (RV.up u3 rvd)) fun s₅ I₅ lk₅ keep₅ => wpAny_pure ?_)))
    refine wpAny_mono (turn i d ρ' s₅ hd hP I₅) (fun f s₆ x6 => ?_) fun _ _ x => x.elim
    obtain ⟨rfl, ρ3, hP3, I₆, lk₆⟩ := x6
    dsimp only
    have lk36 : Like L { s' with heap := h₃, toks := s'.toks + 1 } s₆ := lk₄.trans (lk₅.trans lk₆)
    have up : ∀ b o, b ≠ L → h₂.get? b = some o → s₆.heap.get? b = some o := fun b o nb hb => lk36.2 b o nb (k3 b o hb)
    have hlL : l ≠ L := by
      obtain ⟨m, F, _⟩ := I'.fr
      obtain ⟨o, es, ep, ho, hdd, _⟩ := F.ns
      obtain ⟨ol, el, cl, nl', dl⟩ := hl'
      intro z
      rw [z, ho] at el; cases el
      rw [hdd] at dl; cases dl
    have rv3 : RVs s₆.heap items.toList ds := RVs.seq (h := h₂) (fun b o vs n hb hdt => up b o (fun z => by
      obtain ⟨m, F, _⟩ := I₂.fr
      obtain ⟨o', es, ep, ho, hdd, _⟩ := F.ns
      have ho : h₂.get? L = some o' := ho
      rw [z, ho] at hb; cases hb
      rw [hdd] at hdt; cases hdt) hb) (RVs.up u2 rv')
    obtain ⟨o3, e3, r3⟩ := isList_up u2 hl'
    obtain ⟨o2, e2, r2⟩ := hit₁
    have cst : ((i : Int) + 1) = ((i + 1 : Nat) : Int) := by push_cast; rfl
    refine ⟨items.size + 1 - (i + 1), by omega, i + 1, v, ρ3, rfl, hlt, ?_, ⟨o2, up _ _ iL ((hs₂.2 _ (Ne.symm hei)).trans e2), r2⟩, ⟨o3, up _ _ hlL e3, r3⟩, rv3, hP3, I₆, like_sh (like_sh lk' ⟨_, _, rfl⟩) lk36.1⟩
    have : IsEnum h₂ e it ((i + 1 : Nat) : Int) v := by rw [← cst]; exact he₂
    exact up _ _ eL this
end
end Mine

end
section
open PySem PySem.W PyProof.Rows PySem.Calls
namespace Mine
theorem toNat_inj {a b : List Char} (h : a.map Char.toNat = b.map Char.toNat) : a = b := by
  induction a generalizing b with
  | nil => cases b with
    | nil => rfl
    | cons _ _ => cases h
  | cons x r ih => cases b with
    | nil => cases h
    | cons y t =>
      simp only [List.map_cons, List.cons.injEq] at h
      rw [ih h.2, Char.ext (UInt32.toNat_inj.mp h.1)]
theorem ofs (a b : String) : (Str.ofString a = Str.ofString b) = (a = b) := by
  refine propext ⟨fun h => ?_, fun h => by rw [h]⟩
  rw [Str.ofString_eq_toList, Str.ofString_eq_toList] at h
  have e := congrArg (fun s : Str => s.cps.toList) h
  exact String.toList_inj.mp (toNat_inj e)
theorem bofs (a b : String) : (Str.ofString a == Str.ofString b) = (a == b) := by
  by_cases h : a = b
  · subst h; simp
  · have h1 : (a == b) = false := by simpa using h
    have h2 : ¬ Str.ofString a = Str.ofString b := by rw [ofs]; exact h
    rw [h1]; simpa using h2

/-- the scope's kinds, by name -/
def kg : NameKind → Bool
  | .globalImplicit => true
  | _ => false
def kl : NameKind → Bool
  | .local => true
  | _ => false
def gk (a : String) : List (Str × NameKind) → Bool
  | [] => false
  | (b, k) :: r => if b = Str.ofString a then kg k else gk a r
def lc (a : String) : List (Str × NameKind) → Bool
  | [] => false
  | (b, k) :: r => if b = Str.ofString a then kl k else lc a r
theorem gk_eq (a : String) : ∀ l : List (Str × NameKind), (match l.lookup (Str.ofString a) with | some .globalImplicit => true | _ => false) = gk a l
  | [] => rfl
  | (b, k) :: r => by
    rw [gk, List.lookup_cons]
    by_cases h : b = Str.ofString a
    · rw [if_pos h, h, beq_self_eq_true]; cases k <;> rfl
    · have : (Str.ofString a == b) = false := by simpa using fun e => h e.symm
      rw [if_neg h, this]; exact gk_eq a r
theorem lc_eq (a : String) : ∀ l : List (Str × NameKind), (match l.lookup (Str.ofString a) with | some .local => true | _ => false) = lc a l
  | [] => rfl
  | (b, k) :: r => by
    rw [lc, List.lookup_cons]
    by_cases h : b = Str.ofString a
    · rw [if_pos h, h, beq_self_eq_true]; cases k <;> rfl
    · have : (Str.ofString a == b) = false := by simpa using fun e => h e.symm
      rw [if_neg h, this]; exact lc_eq a r
theorem isG_eq (sc : Scope) (a : String) : isG sc (Str.ofString a) = (gk a sc.names && !decide (a = "__debug__")) := by
  rw [← gk_eq, show decide (a = "__debug__") = (Str.ofString a == ("__debug__" : Str)) from by rw [show ((Str.ofString a == ("__debug__" : Str)) = (a == "__debug__")) from bofs _ _]; by_cases h : a = "__debug__" <;> simp [h]]; rfl
theorem isL_eq (sc : Scope) (a : String) : isL sc (Str.ofString a) = lc a sc.names := by
  rw [← lc_eq]; rfl
theorem gk_cons (a b : String) (k : NameKind) (r : List (Str × NameKind)) : gk a ((Str.ofString b, k) :: r) = if b = a then kg k else gk a r := by
  rw [gk]; simp only [ofs]
theorem lc_cons (a b : String) (k : NameKind) (r : List (Str × NameKind)) : lc a ((Str.ofString b, k) :: r) = if b = a then kl k else lc a r := by
  rw [lc]; simp only [ofs]

section
variable {prog : Program} {w : World} {K : Frag} {n : Nat} {sc : Scope} {G : Ev} {ρ : Ev}
theorem vl_cons (a b : String) (d : D) (r : Ev) (k : D → Prop) : vl sc G (Str.ofString a) k ((Str.ofString b, d) :: r) = if b = a then k d else vl sc G (Str.ofString a) k r := by
  rw [vl]; simp only [ofs]
theorem vl_nil (x : Str) (k : D → Prop) : vl sc G x k [] = (isG sc x = true ∧ vg x k G) := propext Iff.rfl
theorem vg_cons (a b : String) (d : D) (r : Ev) (k : D → Prop) : vg (Str.ofString a) k ((Str.ofString b, d) :: r) = if b = a then k d else vg (Str.ofString a) k r := by
  rw [vg]; simp only [ofs]
theorem vl0_cons (a b : String) (d : D) (r : Ev) (k : D → Prop) : vl0 (Str.ofString a) ((Str.ofString b, d) :: r) k = if b = a then k d else vl0 (Str.ofString a) r k := by
  rw [vl0]; simp only [ofs]
theorem upk_nil (x : Str) (d : D) (c : Ev → Prop) : upk x d [] c = c [(x, d)] := propext Iff.rfl
theorem upk_cons (a b : String) (d e : D) (r : Ev) (c : Ev → Prop) : upk (Str.ofString a) d ((Str.ofString b, e) :: r) c = if b = a then c ((Str.ofString b, d) :: r) else upk (Str.ofString a) d r fun r' => c ((Str.ofString b, e) :: r') := by
  rw [upk]; simp only [ofs]

def tupk (c : List D → Prop) : D → Prop
  | .tuple ds => c ds
  | _ => False
def intk (c : Int → Prop) : D → Prop
  | .int i => c i
  | _ => False
def ksq (prog : Program) (w : World) (K : Frag) (n : Nat) (sc : Scope) (G : Ev) (r : List Stmt) (k : Fl → Prop) : Fl → Prop
  | .next ρ' => wps prog w K n sc G r ρ' k
  | o => k o
def kdf (k : D → Prop) : Fl → Prop
  | .ret d => k d
  | .next _ => k .none
  | _ => False
def klp (n : Nat) (I : Nat → Ev → Prop) (k : Fl → Prop) : Fl → Prop
  | .next ρ'' => ∃ m', m' < n ∧ I m' ρ''
  | .cont ρ'' => ∃ m', m' < n ∧ I m' ρ''
  | .brk ρ'' => k (.next ρ'')
  | .ret d => k (.ret d)
theorem tupk_tup (c : List D → Prop) (ds : List D) : tupk c (.tuple ds) = c ds := propext Iff.rfl
theorem intk_int (c : Int → Prop) (i : Int) : intk c (.int i) = c i := propext Iff.rfl
theorem ksq_next (r : List Stmt) (k : Fl → Prop) (ρ' : Ev) : ksq prog w K n sc G r k (.next ρ') = wps prog w K n sc G r ρ' k := propext Iff.rfl
theorem ksq_ret (r : List Stmt) (k : Fl → Prop) (d : D) : ksq prog w K n sc G r k (.ret d) = k (.ret d) := propext Iff.rfl
theorem ksq_brk (r : List Stmt) (k : Fl → Prop) (ρ' : Ev) : ksq prog w K n sc G r k (.brk ρ') = k (.brk ρ') := propext Iff.rfl
theorem ksq_cont (r : List Stmt) (k : Fl → Prop) (ρ' : Ev) : ksq prog w K n sc G r k (.cont ρ') = k (.cont ρ') := propext Iff.rfl
theorem kdf_ret (k : D → Prop) (d : D) : kdf k (.ret d) = k d := propext Iff.rfl
theorem kdf_next (k : D → Prop) (ρ : Ev) : kdf k (.next ρ) = k .none := propext Iff.rfl
theorem klp_next (I : Nat → Ev → Prop) (k : Fl → Prop) (ρ : Ev) : klp n I k (.next ρ) = ∃ m', m' < n ∧ I m' ρ := propext Iff.rfl
theorem klp_cont (I : Nat → Ev → Prop) (k : Fl → Prop) (ρ : Ev) : klp n I k (.cont ρ) = ∃ m', m' < n ∧ I m' ρ := propext Iff.rfl
theorem klp_brk (I : Nat → Ev → Prop) (k : Fl → Prop) (ρ : Ev) : klp n I k (.brk ρ) = k (.next ρ) := propext Iff.rfl
theorem klp_ret (I : Nat → Ev → Prop) (k : Fl → Prop) (d : D) : klp n I k (.ret d) = k (.ret d) := propext Iff.rfl

theorem e_int (i : Int) (x : Nat) (p : Pos) (k : D → Prop) : wpe prog w K n sc G (.Constant (.int i) x p) ρ k = k (.int i) := propext Iff.rfl
theorem e_str (i : Str) (x : Nat) (p : Pos) (k : D → Prop) : wpe prog w K n sc G (.Constant (.str i) x p) ρ k = k (.str i) := propext Iff.rfl
theorem e_bool (i : Bool) (x : Nat) (p : Pos) (k : D → Prop) : wpe prog w K n sc G (.Constant (.bool i) x p) ρ k = k (.bool i) := propext Iff.rfl
theorem e_name (a : String) (p : Pos) (k : D → Prop) : wpe prog w K n sc G (.Name (Str.ofString a) p) ρ k = ((¬ a = "__debug__") ∧ vl sc G (Str.ofString a) k ρ) := by
  have : (¬ a = "__debug__") = ((Str.ofString a == ("__debug__" : Str)) = false) := by rw [show ((Str.ofString a == ("__debug__" : Str)) = (a == "__debug__")) from bofs _ _]; simp
  rw [this]; rfl
theorem e_bin (l r : PySem.Expr) (op : Operator) (p : Pos) (k : D → Prop) : wpe prog w K n sc G (.BinOp l op r p) ρ k = wpe prog w K n sc G l ρ fun a => wpe prog w K n sc G r ρ fun b => binv op a b k := propext Iff.rfl
theorem e_un (x : PySem.Expr) (op : UnaryOp) (p : Pos) (k : D → Prop) : wpe prog w K n sc G (.UnaryOp op x p) ρ k = wpe prog w K n sc G x ρ fun a => unv op a k := propext Iff.rfl
theorem e_bool2 (op : PySem.BoolOp) (vs : List PySem.Expr) (p : Pos) (k : D → Prop) : wpe prog w K n sc G (.BoolOp op vs p) ρ k = wpb prog w K n sc G op vs ρ k := propext Iff.rfl
theorem e_if (t b o : PySem.Expr) (p : Pos) (k : D → Prop) : wpe prog w K n sc G (.IfExp t b o p) ρ k = wpt prog w K n sc G t ρ (wpe prog w K n sc G t ρ) fun c => br c (wpe prog w K n sc G b ρ k) (wpe prog w K n sc G o ρ k) := propext Iff.rfl
theorem e_cmp (l : PySem.Expr) (ops : List CmpOp) (cs : List PySem.Expr) (p : Pos) (k : D → Prop) : wpe prog w K n sc G (.Compare l ops cs p) ρ k = wpe prog w K n sc G l ρ fun a => wpc prog w K n sc G ops cs a ρ k := propext Iff.rfl
theorem e_call (a : String) (q p : Pos) (args : List PySem.Expr) (k : D → Prop) : wpe prog w K n sc G (.Call (.Name (Str.ofString a) q) args [] p) ρ k =
  ((args.all nstar = true ∧ args.isEmpty = false ∧ isG sc (Str.ofString a) = true ∧ Known K (Str.ofString a)) ∧ wpes prog w K n sc G args ρ fun ds => Spec prog w K n (Str.ofString a) ds k) := propext Iff.rfl
theorem e_bits (o : PySem.Expr) (q p : Pos) (k : D → Prop) : wpe prog w K n sc G (.Call (.Attribute o (Str.ofString "bit_length") q) [] [] p) ρ k =
  ((ncall o = true ∧ (q.endLine == p.line) = true) ∧ wpe prog w K n sc G o ρ (intk fun i => k (.int (Builtin.Int.intBits i)))) := by
  show ((("bit_length" : Str) = "bit_length" ∧ ncall o = true ∧ (q.endLine == p.line) = true) ∧ wpe prog w K n sc G o ρ (intk fun i => k (.int (Builtin.Int.intBits i)))) = _
  simp only [true_and]
theorem e_sub (v i : PySem.Expr) (p : Pos) (k : D → Prop) : wpe prog w K n sc G (.Subscript v i p) ρ k = (nslice i = true ∧ wpe prog w K n sc G v ρ fun a => wpe prog w K n sc G i ρ fun b => subv K a b k) := propext Iff.rfl
theorem e_tup (es : List PySem.Expr) (x : Nat) (p : Pos) (k : D → Prop) : wpe prog w K n sc G (.Tuple es x p) ρ k = ((es.all nstar = true) ∧ wpes prog w K n sc G es ρ fun ds => ds.length < 1000 ∧ k (.tuple ds)) := propext Iff.rfl
theorem t_not (x : PySem.Expr) (p : Pos) (wh : (D → Prop) → Prop) (k : Bool → Prop) : wpt prog w K n sc G (.UnaryOp .Not x p) ρ wh k = wpt prog w K n sc G x ρ (wpe prog w K n sc G x ρ) fun b => k (!b) := propext Iff.rfl
theorem t_bool (op : PySem.BoolOp) (vs : List PySem.Expr) (p : Pos) (wh : (D → Prop) → Prop) (k : Bool → Prop) : wpt prog w K n sc G (.BoolOp op vs p) ρ wh k = wpa prog w K n sc G op vs ρ k := propext Iff.rfl
theorem t_if (t b o : PySem.Expr) (p : Pos) (wh : (D → Prop) → Prop) (k : Bool → Prop) : wpt prog w K n sc G (.IfExp t b o p) ρ wh k = wpt prog w K n sc G t ρ (wpe prog w K n sc G t ρ) fun c => br c (wpt prog w K n sc G b ρ (wpe prog w K n sc G b ρ) k) (wpt prog w K n sc G o ρ (wpe prog w K n sc G o ρ) k) := propext Iff.rfl
theorem t_cmp (l : PySem.Expr) (ops : List CmpOp) (cs : List PySem.Expr) (p : Pos) (wh : (D → Prop) → Prop) (k : Bool → Prop) : wpt prog w K n sc G (.Compare l ops cs p) ρ wh k = wpe prog w K n sc G l ρ fun a => wpd prog w K n sc G ops cs a ρ k := propext Iff.rfl
theorem t_name (x : Str) (p : Pos) (wh : (D → Prop) → Prop) (k : Bool → Prop) : wpt prog w K n sc G (.Name x p) ρ wh k = wh fun d => trv d k := propext Iff.rfl
theorem t_call (f : PySem.Expr) (as : List PySem.Expr) (ks : List Keyword) (p : Pos) (wh : (D → Prop) → Prop) (k : Bool → Prop) : wpt prog w K n sc G (.Call f as ks p) ρ wh k = wh fun d => trv d k := propext Iff.rfl
theorem t_bin (l r : PySem.Expr) (op : Operator) (p : Pos) (wh : (D → Prop) → Prop) (k : Bool → Prop) : wpt prog w K n sc G (.BinOp l op r p) ρ wh k = wh fun d => trv d k := propext Iff.rfl
theorem t_const (c : Const) (x : Nat) (p : Pos) (wh : (D → Prop) → Prop) (k : Bool → Prop) : wpt prog w K n sc G (.Constant c x p) ρ wh k = wh fun d => trv d k := propext Iff.rfl
theorem t_sub (v i : PySem.Expr) (p : Pos) (wh : (D → Prop) → Prop) (k : Bool → Prop) : wpt prog w K n sc G (.Subscript v i p) ρ wh k = wh fun d => trv d k := propext Iff.rfl
theorem es_nil (k : List D → Prop) : wpes prog w K n sc G [] ρ k = k [] := propext Iff.rfl
theorem es_cons (e : PySem.Expr) (r : List PySem.Expr) (k : List D → Prop) : wpes prog w K n sc G (e :: r) ρ k = wpe prog w K n sc G e ρ fun d => wpes prog w K n sc G r ρ fun ds => k (d :: ds) := propext Iff.rfl
theorem b_one (op : PySem.BoolOp) (x : PySem.Expr) (k : D → Prop) : wpb prog w K n sc G op [x] ρ k = wpe prog w K n sc G x ρ k := propext Iff.rfl
theorem b_and (x y : PySem.Expr) (r : List PySem.Expr) (k : D → Prop) : wpb prog w K n sc G .And (x :: y :: r) ρ k = wpe prog w K n sc G x ρ fun a => trv a fun c => br c (wpb prog w K n sc G .And (y :: r) ρ k) (k a) := propext Iff.rfl
theorem b_or (x y : PySem.Expr) (r : List PySem.Expr) (k : D → Prop) : wpb prog w K n sc G .Or (x :: y :: r) ρ k = wpe prog w K n sc G x ρ fun a => trv a fun c => br c (k a) (wpb prog w K n sc G .Or (y :: r) ρ k) := propext Iff.rfl
theorem a_nil_and (k : Bool → Prop) : wpa prog w K n sc G .And [] ρ k = k true := propext Iff.rfl
theorem a_nil_or (k : Bool → Prop) : wpa prog w K n sc G .Or [] ρ k = k false := propext Iff.rfl
theorem a_and (x : PySem.Expr) (r : List PySem.Expr) (k : Bool → Prop) : wpa prog w K n sc G .And (x :: r) ρ k = wpt prog w K n sc G x ρ (wpe prog w K n sc G x ρ) fun c => br c (wpa prog w K n sc G .And r ρ k) (k false) := propext Iff.rfl
theorem a_or (x : PySem.Expr) (r : List PySem.Expr) (k : Bool → Prop) : wpa prog w K n sc G .Or (x :: r) ρ k = wpt prog w K n sc G x ρ (wpe prog w K n sc G x ρ) fun c => br c (k true) (wpa prog w K n sc G .Or r ρ k) := propext Iff.rfl
theorem c_one (op : CmpOp) (r : PySem.Expr) (a : D) (k : D → Prop) : wpc prog w K n sc G [op] [r] a ρ k = (nset r = true ∧ wpe prog w K n sc G r ρ fun b => cmpv op a b fun c => k (.bool c)) := propext Iff.rfl
theorem c_more (op op' : CmpOp) (ops : List CmpOp) (r r' : PySem.Expr) (rs : List PySem.Expr) (a : D) (k : D → Prop) : wpc prog w K n sc G (op :: op' :: ops) (r :: r' :: rs) a ρ k = wpe prog w K n sc G r ρ fun b => cmpv op a b fun c => br c (wpc prog w K n sc G (op' :: ops) (r' :: rs) b ρ k) (k (.bool c)) := propext Iff.rfl
theorem d_one (op : CmpOp) (r : PySem.Expr) (a : D) (k : Bool → Prop) : wpd prog w K n sc G [op] [r] a ρ k = (nset r = true ∧ wpe prog w K n sc G r ρ fun b => cmpv op a b k) := propext Iff.rfl
theorem d_more (op op' : CmpOp) (ops : List CmpOp) (r r' : PySem.Expr) (rs : List PySem.Expr) (a : D) (k : Bool → Prop) : wpd prog w K n sc G (op :: op' :: ops) (r :: r' :: rs) a ρ k = wpe prog w K n sc G r ρ fun b => cmpv op a b fun c => br c (wpd prog w K n sc G (op' :: ops) (r' :: rs) b ρ k) (k false) := propext Iff.rfl
theorem s_nil (k : Fl → Prop) : wps prog w K n sc G [] ρ k = k (.next ρ) := propext Iff.rfl
theorem s_cons (s : Stmt) (r : List Stmt) (k : Fl → Prop) : wps prog w K n sc G (s :: r) ρ k = wp1 prog w K n sc G s ρ (ksq prog w K n sc G r k) := propext Iff.rfl
theorem s_pass (p : Pos) (k : Fl → Prop) : wp1 prog w K n sc G (.Pass p) ρ k = k (.next ρ) := propext Iff.rfl
theorem s_brk (p : Pos) (k : Fl → Prop) : wp1 prog w K n sc G (.Break p) ρ k = k (.brk ρ) := propext Iff.rfl
theorem s_ret (e : PySem.Expr) (p : Pos) (k : Fl → Prop) : wp1 prog w K n sc G (.Return (some e) p) ρ k = wpe prog w K n sc G e ρ fun d => k (.ret d) := propext Iff.rfl
theorem s_asg (x : Str) (q : Pos) (e : PySem.Expr) (p : Pos) (k : Fl → Prop) : wp1 prog w K n sc G (.Assign [.Name x q] e p) ρ k = ((ncomp e = true ∧ isL sc x = true) ∧ wpe prog w K n sc G e ρ fun d => upk x d ρ fun ρ' => k (.next ρ')) := propext Iff.rfl
theorem s_tup (ts : List PySem.Expr) (z : Nat) (q : Pos) (e : PySem.Expr) (p : Pos) (k : Fl → Prop) : wp1 prog w K n sc G (.Assign [.Tuple ts z q] e p) ρ k = ((ncomp e = true ∧ okSwap sc ts e = true) ∧ wpe prog w K n sc G e ρ (tupk fun ds => asg sc ts ds ρ fun ρ' => k (.next ρ'))) := propext Iff.rfl
theorem s_aug (x : Str) (q : Pos) (op : Operator) (e : PySem.Expr) (p : Pos) (k : Fl → Prop) : wp1 prog w K n sc G (.AugAssign (.Name x q) op e p) ρ k = ((isL sc x = true) ∧ vl0 x ρ fun a => wpe prog w K n sc G e ρ fun b => augv op a b fun d => upk x d ρ fun ρ' => k (.next ρ')) := propext Iff.rfl
theorem s_if (t : PySem.Expr) (b o : List Stmt) (p : Pos) (k : Fl → Prop) : wp1 prog w K n sc G (.If t b o p) ρ k = wpt prog w K n sc G t ρ (wpe prog w K n sc G t ρ) fun c => br c (wps prog w K n sc G b ρ k) (wps prog w K n sc G o ρ k) := propext Iff.rfl
theorem s_assert (t : PySem.Expr) (p : Pos) (k : Fl → Prop) : wp1 prog w K n sc G (.Assert t none p) ρ k = wpt prog w K n sc G t ρ (wpe prog w K n sc G t ρ) fun c => c = true ∧ k (.next ρ) := propext Iff.rfl
theorem s_while (t : PySem.Expr) (b : List Stmt) (p : Pos) (k : Fl → Prop) : wp1 prog w K n sc G (.While t b [] p) ρ k = ∃ I : Nat → Ev → Prop, (∃ m, I m ρ) ∧ ∀ m ρ', I m ρ' → wpt prog w K n sc G t ρ' (wpe prog w K n sc G t ρ') fun c =>
      br c (wps prog w K n sc G b ρ' (klp m I k)) (k (.next ρ')) := propext Iff.rfl
theorem asg_nil (c : Ev → Prop) : asg sc [] [] ρ c = c ρ := propext Iff.rfl
theorem asg_cons (x : Str) (q : Pos) (ts : List PySem.Expr) (d : D) (ds : List D) (c : Ev → Prop) : asg sc (.Name x q :: ts) (d :: ds) ρ c = (isL sc x = true ∧ upk x d ρ fun ρ' => asg sc ts ds ρ' c) := propext Iff.rfl
end
section
variable (a b : Int) (k : D → Prop) (c : Bool → Prop)
theorem bv_add : binv .Add (.int a) (.int b) k = k (.int (a + b)) := propext Iff.rfl
theorem bv_sub : binv .Sub (.int a) (.int b) k = k (.int (a - b)) := propext Iff.rfl
theorem bv_mul : binv .Mult (.int a) (.int b) k = (IntMulOk a b ∧ k (.int (a * b))) := propext Iff.rfl
theorem bv_fdiv : binv .FloorDiv (.int a) (.int b) k = ((b ≠ 0 ∧ b.natAbs.log2 < 9000) ∧ k (.int (a.fdiv b))) := propext Iff.rfl
theorem bv_mod : binv .Mod (.int a) (.int b) k = ((b ≠ 0) ∧ k (.int (a.fmod b))) := propext Iff.rfl
theorem bv_shl : binv .LShift (.int a) (.int b) k = ((0 ≤ b ∧ (Builtin.Int.intBits a : Int) + b ≤ 2 ^ 27) ∧ k (.int (a * 2 ^ b.toNat))) := propext Iff.rfl
theorem bv_shr : binv .RShift (.int a) (.int b) k = (0 ≤ b ∧ k (.int (a.fdiv (2 ^ b.toNat)))) := propext Iff.rfl
theorem bv_and : binv .BitAnd (.int a) (.int b) k = k (.int (Builtin.bitAnd a b)) := propext Iff.rfl
theorem bv_xor : binv .BitXor (.int a) (.int b) k = k (.int (Builtin.bitXor a b)) := propext Iff.rfl
theorem bv_pow : binv .Pow (.int a) (.int b) k = ((0 ≤ b ∧ b ≤ 1000000 ∧ a.natAbs < 2 ^ 64) ∧ k (.int (a ^ b.toNat))) := propext Iff.rfl
theorem av_add : augv .Add (.int a) (.int b) k = k (.int (a + b)) := propext Iff.rfl
theorem av_sub : augv .Sub (.int a) (.int b) k = k (.int (a - b)) := propext Iff.rfl
theorem av_mul : augv .Mult (.int a) (.int b) k = (IntMulOk a b ∧ k (.int (a * b))) := propext Iff.rfl
theorem av_shl : augv .LShift (.int a) (.int b) k = ((0 ≤ b ∧ (Builtin.Int.intBits a : Int) + b ≤ 2 ^ 27) ∧ k (.int (a * 2 ^ b.toNat))) := propext Iff.rfl
theorem av_shr : augv .RShift (.int a) (.int b) k = (0 ≤ b ∧ k (.int (a.fdiv (2 ^ b.toNat)))) := propext Iff.rfl
theorem av_xor : augv .BitXor (.int a) (.int b) k = k (.int (Builtin.bitXor a b)) := propext Iff.rfl
theorem cv_eq : cmpv .Eq (.int a) (.int b) c = c (decide (a = b)) := propext Iff.rfl
theorem cv_ne : cmpv .NotEq (.int a) (.int b) c = c (decide (a ≠ b)) := propext Iff.rfl
theorem cv_lt : cmpv .Lt (.int a) (.int b) c = c (decide (a < b)) := propext Iff.rfl
theorem cv_le : cmpv .LtE (.int a) (.int b) c = c (decide (a ≤ b)) := propext Iff.rfl
theorem cv_gt : cmpv .Gt (.int a) (.int b) c = c (decide (b < a)) := propext Iff.rfl
theorem cv_ge : cmpv .GtE (.int a) (.int b) c = c (decide (b ≤ a)) := propext Iff.rfl
theorem cv_str (x y : String) : cmpv .Eq (.str (Str.ofString x)) (.str (Str.ofString y)) c = c (decide (x = y)) := by
  show c (decide (Str.ofString x = Str.ofString y)) = _
  simp only [ofs]
theorem tr_bool (x : Bool) : trv (.bool x) c = c x := propext Iff.rfl
theorem tr_int : trv (.int a) c = c (decide (a ≠ 0)) := propext Iff.rfl
theorem uv_neg : unv .USub (.int a) k = k (.int (-a)) := propext Iff.rfl
theorem uv_not (d : D) : unv .Not d k = trv d fun b => k (.bool (!b)) := by cases d <;> rfl
end
theorem br_dec (p : Prop) [Decidable p] (a b : Prop) : br (decide p) a b = if p then a else b := by
  unfold br; by_cases h : p <;> simp [h]
theorem br_tt (a b : Prop) : br true a b = a := by simp [br]
theorem br_ff (a b : Prop) : br false a b = b := by simp [br]
theorem br_not (c : Bool) (a b : Prop) : br (!c) a b = br c b a := by cases c <;> simp [br]
theorem sub_tup (K : Frag) (ds : List D) (i : Nat) (d : D) (k : D → Prop) (h : ds[i]? = some d) (hl : ds.length < 1000) : subv K (.tuple ds) (.int i) k = k d := by
  have hi : i < ds.length := by
    rcases Nat.lt_or_ge i ds.length with h' | h'
    · exact h'
    · rw [List.getElem?_eq_none h'] at h; cases h
  have e : subv K (.tuple ds) (.int i) k = ((0 ≤ (i : Int) ∧ (i : Int) < ds.length ∧ ds.length < 1000) ∧ ∀ d, ds[(i : Int).toNat]? = some d → k d) := propext Iff.rfl
  rw [e]
  refine propext ⟨fun x => x.2 d (by simpa using h), fun x => ⟨⟨by omega, by omega, hl⟩, fun d' e' => ?_⟩⟩
  simp at e'
  rw [h] at e'; cases e'; exact x
theorem sub2_0 (K : Frag) (a b : D) (k : D → Prop) : subv K (.tuple [a, b]) (.int 0) k = k a := sub_tup K [a, b] 0 a k rfl (by simp)
theorem sub2_1 (K : Frag) (a b : D) (k : D → Prop) : subv K (.tuple [a, b]) (.int 1) k = k b := sub_tup K [a, b] 1 b k rfl (by simp)
theorem sub4_0 (K : Frag) (a b c d : D) (k : D → Prop) : subv K (.tuple [a, b, c, d]) (.int 0) k = k a := sub_tup K [a, b, c, d] 0 a k rfl (by simp)
theorem sub_tab (K : Frag) (a : Int) (x : Str) (k : D → Prop) : subv K (.dict [(.int a, .none)]) (.str x) k = ∃ is, TabRow K a.toNat x is ∧ k (.tuple (is.map .int)) := propext Iff.rfl
theorem tab_row {K : Frag} {a : Addr} {x : Str} {is : List Int} (h : TabRow K a x is) (k : D → Prop) : (∃ is, TabRow K a x is ∧ k (.tuple (is.map .int))) ↔ k (.tuple (is.map .int)) ∨ (∃ is, TabRow K a x is ∧ k (.tuple (is.map .int))) :=
  ⟨.inr, fun x => x.elim (fun y => ⟨is, h, y⟩) id⟩
open PySem.SeqAt in
theorem shaped4 (a b c d : Int) : shaped (.tuple [.int a, .int b, .int c, .int d]) = true := by
  simp [shaped, PyData.canLay0, PyData.canLayAll0, PyData.depth, PyData.depthAll]
theorem cv_tup (a b c d a' b' c' d' : Int) (k : Bool → Prop) : cmpv .Eq (.tuple [.int a, .int b, .int c, .int d]) (.tuple [.int a', .int b', .int c', .int d']) k = k (decide (a = a' ∧ b = b' ∧ c = c' ∧ d = d')) := by
  have e : cmpv .Eq (.tuple [.int a, .int b, .int c, .int d]) (.tuple [.int a', .int b', .int c', .int d']) k = ((PySem.SeqAt.shaped (.tuple [.int a, .int b, .int c, .int d]) = true ∧ PySem.SeqAt.shaped (.tuple [.int a', .int b', .int c', .int d']) = true ∧ nds [.int a, .int b, .int c, .int d] = true ∧ nds [.int a', .int b', .int c', .int d'] = true) ∧ k (PyData.eqvAll [.int a, .int b, .int c, .int d] [.int a', .int b', .int c', .int d'])) := propext Iff.rfl
  rw [e, shaped4, shaped4]
  have : PyData.eqvAll [.int a, .int b, .int c, .int d] [.int a', .int b', .int c', .int d'] = decide (a = a' ∧ b = b' ∧ c = c' ∧ d = d') := by
    simp only [PyData.eqvAll, PyData.eqv]
    by_cases h1 : a = a' <;> by_cases h2 : b = b' <;> by_cases h3 : c = c' <;> by_cases h4 : d = d' <;> simp [h1, h2, h3, h4]
  rw [this]; simp [nds, nd]
theorem cv_in (a b c d a' b' c' d' a2 b2 c2 d2 : Int) (k : Bool → Prop) : cmpv .In (.tuple [.int a, .int b, .int c, .int d]) (.tuple [.tuple [.int a', .int b', .int c', .int d'], .tuple [.int a2, .int b2, .int c2, .int d2]]) k = k (decide ((a' = a ∧ b' = b ∧ c' = c ∧ d' = d) ∨ (a2 = a ∧ b2 = b ∧ c2 = c ∧ d2 = d))) := by
  have e : cmpv .In (.tuple [.int a, .int b, .int c, .int d]) (.tuple [.tuple [.int a', .int b', .int c', .int d'], .tuple [.int a2, .int b2, .int c2, .int d2]]) k =
    ((PyData.canLayAll0 [.tuple [.int a', .int b', .int c', .int d'], .tuple [.int a2, .int b2, .int c2, .int d2]] = true ∧ (PyData.tuple [.int a, .int b, .int c, .int d]).canLay0 = true ∧ (PyData.tuple [.int a, .int b, .int c, .int d]).depth ≤ 60 ∧
      nds [.tuple [.int a', .int b', .int c', .int d'], .tuple [.int a2, .int b2, .int c2, .int d2]] = true ∧ nd (.tuple [.int a, .int b, .int c, .int d]) = true) ∧
    k ([PyData.tuple [.int a', .int b', .int c', .int d'], .tuple [.int a2, .int b2, .int c2, .int d2]].any fun y => PyData.eqv y (.tuple [.int a, .int b, .int c, .int d]))) := propext Iff.rfl
  rw [e]
  have : ([PyData.tuple [.int a', .int b', .int c', .int d'], .tuple [.int a2, .int b2, .int c2, .int d2]].any fun y => PyData.eqv y (.tuple [.int a, .int b, .int c, .int d])) = decide ((a' = a ∧ b' = b ∧ c' = c ∧ d' = d) ∨ (a2 = a ∧ b2 = b ∧ c2 = c ∧ d2 = d)) := by
    simp only [List.any_cons, List.any_nil, PyData.eqvAll, PyData.eqv, Bool.or_false, Bool.and_true]
    by_cases h1 : a' = a <;> by_cases h2 : b' = b <;> by_cases h3 : c' = c <;> by_cases h4 : d' = d <;> by_cases h5 : a2 = a <;> by_cases h6 : b2 = b <;> by_cases h7 : c2 = c <;> by_cases h8 : d2 = d <;> simp [h1, h2, h3, h4, h5, h6, h7, h8]
  rw [this]; simp [nds, nd, PyData.canLay0, PyData.canLayAll0, PyData.depth, PyData.depthAll]
theorem cv_instr (a b : Str) (k : Bool → Prop) : cmpv .In (.str a) (.str b) k = k (Txt.contains b a) := propext Iff.rfl
theorem ok_name (sc : Scope) (ts : List PySem.Expr) (x : Str) (p : Pos) : okSwap sc ts (.Name x p) = true := by rfl
theorem ok_call (sc : Scope) (ts : List PySem.Expr) (f : PySem.Expr) (as : List PySem.Expr) (ks : List Keyword) (p : Pos) : okSwap sc ts (.Call f as ks p) = true := by rfl
theorem ok_four (sc : Scope) (a b c d e : PySem.Expr) (z : Nat) (p : Pos) (vs : List PySem.Expr) : okSwap sc [a, b, c, d] (.Tuple vs z p) = true := by rfl
theorem ok_two (sc : Scope) (x y : Str) (p q : Pos) (a b : PySem.Expr) (z : Nat) (r : Pos) : okSwap sc [.Name x p, .Name y q] (.Tuple [a, b] z r) =
  (nstar a && nstar b && isL sc x && isL sc y && q.line == p.line && !(x == y) && !([a, b].all (foldedForSure 8)) && !([a, b].all (constantsAlone 8))) := by rfl
end Mine

end
section
open PySem
namespace Mine
/-! ## powers of two -/
def pw (k : Int) : Rat := (2 : Rat) ^ k
theorem two_ne : (2 : Rat) ≠ 0 := by decide
theorem pw_pos (k : Int) : 0 < pw k := Rat.zpow_pos (by decide)
theorem pw_add (a b : Int) : pw (a + b) = pw a * pw b := Rat.zpow_add two_ne a b
theorem pw_zero : pw 0 = 1 := Rat.zpow_zero _
theorem pw_one : pw 1 = 2 := Rat.zpow_one _
theorem pw_nat (n : Nat) : pw (n : Int) = ((2 ^ n : Nat) : Rat) := by
  unfold pw
  rw [Rat.zpow_natCast]
  induction n with
  | zero => rfl
  | succ n ih => rw [Rat.pow_succ, ih, Nat.pow_succ]; simp [Rat.natCast_mul]
theorem pw_neg (k : Int) : pw k * pw (-k) = 1 := by rw [← pw_add]; simp [pw_zero, Int.add_right_neg]
theorem pw_succ (k : Int) : pw (k + 1) = 2 * pw k := by rw [pw_add, pw_one]; grind
theorem pw_ge_one {k : Int} (h : 0 ≤ k) : 1 ≤ pw k := by
  obtain ⟨n, rfl⟩ := Int.eq_ofNat_of_zero_le h
  rw [pw_nat]
  have : 1 ≤ 2 ^ n := Nat.one_le_two_pow
  exact_mod_cast this
theorem pw_mono {a b : Int} (h : a ≤ b) : pw a ≤ pw b := by
  have e : b = a + (b - a) := by omega
  rw [e, pw_add]
  have h1 := pw_ge_one (show 0 ≤ b - a by omega)
  have h2 := pw_pos a
  have := Rat.mul_le_mul_of_nonneg_left h1 (Rat.le_of_lt h2)
  grind
theorem pw_split {a b : Int} (h : a ≤ b) : pw b = ((2 ^ (b - a).toNat : Nat) : Rat) * pw a := by
  have e : b = ((b - a).toNat : Int) + a := by omega
  conv => lhs; rw [e, pw_add, pw_nat]
end Mine

end
section
open PySem
namespace Mine
/-- r is v rounded down, up, to p bits -/
structure RDn (p : Nat) (v r : Rat) : Prop where
  le : r ≤ v
  top : ∀ (c : Nat) (k : Int), c < 2 ^ p → (c : Rat) * pw k ≤ v → (c : Rat) * pw k ≤ r
structure RUp (p : Nat) (v r : Rat) : Prop where
  le : v ≤ r
  top : ∀ (c : Nat) (k : Int), c < 2 ^ p → v ≤ (c : Rat) * pw k → r ≤ (c : Rat) * pw k
theorem RDn.self {p : Nat} {v : Rat} : RDn p v v := ⟨Rat.le_refl, fun _ _ _ h => h⟩
theorem RUp.self {p : Nat} {v : Rat} : RUp p v v := ⟨Rat.le_refl, fun _ _ _ h => h⟩

theorem mul_le_cancel {a b c : Rat} (hc : 0 < c) : a * c ≤ b * c ↔ a ≤ b := ⟨fun h => Rat.le_of_mul_le_mul_right h hc, fun h => Rat.mul_le_mul_of_nonneg_right h (Rat.le_of_lt hc)⟩
theorem mul_lt_cancel {a b c : Rat} (hc : 0 < c) : a * c < b * c ↔ a < b := Rat.mul_lt_mul_right hc

/-- whole numbers at one exponent -/
theorem cle {a b : Nat} {e : Int} : (a : Rat) * pw e ≤ (b : Rat) * pw e ↔ a ≤ b := by rw [mul_le_cancel (pw_pos e)]; exact_mod_cast Iff.rfl
theorem clt {a b : Nat} {e : Int} : (a : Rat) * pw e < (b : Rat) * pw e ↔ a < b := by rw [mul_lt_cancel (pw_pos e)]; exact_mod_cast Iff.rfl
theorem lift {c : Nat} {k q : Int} (h : q ≤ k) : (c : Rat) * pw k = ((c * 2 ^ (k - q).toNat : Nat) : Rat) * pw q := by
  rw [pw_split h, Rat.natCast_mul]; grind

theorem toN (e : Int) (n : Nat) : (e + (n : Int) - e).toNat = n := by omega
theorem liftn {c n : Nat} {e : Int} : (c : Rat) * pw (e + n) = ((c * 2 ^ n : Nat) : Rat) * pw e := by rw [lift (q := e) (by omega), toN]
theorem csub {a b : Nat} (h : b ≤ a) : (a : Rat) - (b : Rat) = ((a - b : Nat) : Rat) := by
  have : (a : Rat) = ((a - b : Nat) : Rat) + (b : Rat) := by rw [← Rat.natCast_add]; congr 1; omega
  rw [this]; grind

/-- rounding down by whole numbers -/
theorem rdn_nat {p n N M : Nat} {e : Int} (hp : 1 ≤ p) (h1 : M * 2 ^ n ≤ N) (h2 : N < (M + 1) * 2 ^ n) (h3 : 2 ^ (p - 1) ≤ M) : RDn p (N * pw e) (M * pw (e + n)) := by
  have eM : (M : Rat) * pw (e + n) = ((M * 2 ^ n : Nat) : Rat) * pw e := liftn
  refine ⟨?_, fun c k hc hk => ?_⟩
  · rw [eM, cle]; exact h1
  · rcases Int.le_total (e + n) k with hq | hq
    · rw [lift hq] at hk ⊢
      rw [cle]
      rw [liftn, cle] at hk
      rcases Nat.lt_or_ge M (c * 2 ^ (k - (e + n)).toNat) with hlt | hge
      · have := Nat.mul_le_mul_right (2 ^ n) (show M + 1 ≤ _ from hlt); omega
      · exact hge
    · rw [lift (c := M) (q := k) hq, cle]
      rcases Int.le_iff_lt_or_eq.mp hq with hlt | rfl
      · obtain ⟨j, hj⟩ : ∃ j, (e + n - k).toNat = j + 1 := ⟨(e + n - k).toNat - 1, by omega⟩
        rw [hj]
        have a1 : c ≤ 2 ^ p := Nat.le_of_lt hc
        have a2 : 2 ^ p = 2 ^ (p - 1) * 2 := by rw [← Nat.pow_succ]; congr 1; omega
        have a3 : M * 2 ≤ M * 2 ^ (j + 1) := Nat.mul_le_mul_left _ (by rw [Nat.pow_succ]; have := Nat.one_le_two_pow (n := j); omega)
        have a4 := Nat.mul_le_mul_right 2 h3
        omega
      · have hk' := hk
        rw [liftn, cle] at hk'
        simp only [Int.sub_self, Int.toNat_zero, Nat.pow_zero, Nat.mul_one]
        rcases Nat.lt_or_ge M c with hlt | hge
        · have := Nat.mul_le_mul_right (2 ^ n) (show M + 1 ≤ _ from hlt); omega
        · exact hge

/-- rounding up by whole numbers -/
theorem rup_nat {p n N M : Nat} {e : Int} (hp : 1 ≤ p) (h1 : N ≤ M * 2 ^ n) (h2 : M * 2 ^ n < N + 2 ^ n) (h3 : 2 ^ (p - 1) * 2 ^ n ≤ N) : RUp p (N * pw e) (M * pw (e + n)) := by
  have eM : (M : Rat) * pw (e + n) = ((M * 2 ^ n : Nat) : Rat) * pw e := liftn
  refine ⟨?_, fun c k hc hk => ?_⟩
  · rw [eM, cle]; exact h1
  · have hM : 2 ^ (p - 1) ≤ M := by
      rcases Nat.lt_or_ge M (2 ^ (p - 1)) with h | h
      · have := Nat.mul_le_mul_right (2 ^ n) (show M + 1 ≤ _ from h); rw [Nat.add_mul] at this
        have := Nat.two_pow_pos n; omega
      · exact h
    rcases (by omega : k < e + n ∨ e + n ≤ k) with hq | hq
    · exfalso
      have a0 : ((2 ^ (p - 1) * 2 ^ n : Nat) : Rat) * pw e ≤ (N : Rat) * pw e := cle.mpr h3
      rw [← liftn] at a0
      have a1 := Rat.le_trans a0 hk
      rw [lift (c := 2 ^ (p - 1)) (q := k) (k := e + n) (by omega), cle] at a1
      obtain ⟨j, hj⟩ : ∃ j, (e + n - k).toNat = j + 1 := ⟨(e + n - k).toNat - 1, by omega⟩
      rw [hj] at a1
      have a2 : 2 ^ p = 2 ^ (p - 1) * 2 := by rw [← Nat.pow_succ]; congr 1; omega
      have a3 : 2 ^ (p - 1) * 2 ≤ 2 ^ (p - 1) * 2 ^ (j + 1) := Nat.mul_le_mul_left _ (by rw [Nat.pow_succ]; have := Nat.one_le_two_pow (n := j); omega)
      omega
    · rw [lift (c := c) (q := e + n) (k := k) (by omega)] at hk ⊢
      rw [cle]
      rw [liftn, cle] at hk
      rcases Nat.lt_or_ge (c * 2 ^ (k - (e + n)).toNat) M with hlt | hge
      · have := Nat.mul_le_mul_right (2 ^ n) (show _ + 1 ≤ M from hlt)
        rw [Nat.add_mul, Nat.one_mul] at this; omega
      · exact hge
end Mine

end
section
open PySem
namespace Mine
def bl (n : Nat) : Nat := Builtin.Int.intBits (n : Int)
theorem bl_le {n k : Nat} : bl n ≤ k ↔ n < 2 ^ k := by unfold bl; rw [intBits_le_iff]; simp
theorem bl_lt {n k : Nat} : k < bl n ↔ 2 ^ k ≤ n := by
  have := bl_le (n := n) (k := k); omega
theorem bl_up (n : Nat) : n < 2 ^ bl n := bl_le.mp (Nat.le_refl _)
theorem bl_ge1 {n : Nat} (h : 0 < n) : 1 ≤ bl n := bl_lt.mpr (by simp; omega)
theorem bl_lo {n : Nat} (h : 0 < n) : 2 ^ (bl n - 1) ≤ n := bl_lt.mp (by have := bl_ge1 h; omega)
theorem bl_eq {n k : Nat} (h1 : 2 ^ k ≤ n) (h2 : n < 2 ^ (k + 1)) : bl n = k + 1 := by
  have := bl_lt.mpr h1; have := bl_le.mpr h2; omega
theorem bl_zero : bl 0 = 0 := by have := bl_le (n := 0) (k := 0); simp at this; exact this
theorem bl_shift {n t : Nat} (h : 0 < n) : bl (n * 2 ^ t) = bl n + t := by
  have h1 := bl_lo h; have h2 := bl_up n; have h3 := bl_ge1 h
  have e : bl n + t = (bl n - 1 + t) + 1 := by omega
  rw [e]
  refine bl_eq ?_ ?_
  · rw [Nat.pow_add]; exact Nat.mul_le_mul_right _ h1
  · rw [show bl n - 1 + t + 1 = bl n + t by omega, Nat.pow_add]; exact Nat.mul_lt_mul_of_pos_right h2 (Nat.two_pow_pos t)
theorem bl_mono {a b : Nat} (h : a ≤ b) : bl a ≤ bl b := bl_le.mpr (Nat.lt_of_le_of_lt h (bl_up b))

theorem odd_part : ∀ n : Nat, 0 < n → ∃ q t, n = q * 2 ^ t ∧ q % 2 = 1 := by
  intro n
  induction n using Nat.strongRecOn with
  | ind n ih =>
    intro h
    by_cases h2 : n % 2 = 1
    · exact ⟨n, 0, by simp, h2⟩
    · obtain ⟨q, t, e, ho⟩ := ih (n / 2) (by omega) (by omega)
      exact ⟨q, t + 1, by rw [Nat.pow_succ, ← Nat.mul_assoc, ← e]; omega, ho⟩
theorem and_pred (q : Nat) (h : q % 2 = 1) : ∀ t : Nat, (q * 2 ^ t) &&& (q * 2 ^ t - 1) = q * 2 ^ t - 2 ^ t := by
  intro t
  have hq : 0 < q := by omega
  induction t with
  | zero =>
    simp only [Nat.pow_zero, Nat.mul_one]
    apply Nat.eq_of_testBit_eq
    intro i
    rw [Nat.testBit_and]
    cases i with
    | zero => simp [Nat.testBit_zero, h]
    | succ i => rw [Nat.testBit_succ, Nat.testBit_succ, show (q - 1) / 2 = q / 2 by omega, Bool.and_self]
  | succ t ih =>
    have e : q * 2 ^ (t + 1) = 2 * (q * 2 ^ t) := by rw [Nat.pow_succ]; grind
    rw [e, Nat.pow_succ]
    have hp : 0 < q * 2 ^ t := Nat.mul_pos hq (Nat.two_pow_pos t)
    have hle : 2 ^ t ≤ q * 2 ^ t := Nat.le_mul_of_pos_left _ hq
    generalize q * 2 ^ t = m at *
    apply Nat.eq_of_testBit_eq
    intro i
    rw [Nat.testBit_and]
    cases i with
    | zero => simp [Nat.testBit_zero]; omega
    | succ i =>
      rw [Nat.testBit_succ, Nat.testBit_succ, Nat.testBit_succ, show 2 * m / 2 = m by omega, show (2 * m - 1) / 2 = m - 1 by omega, show (2 * m - 2 ^ t * 2) / 2 = m - 2 ^ t by omega, ← ih, Nat.testBit_and]
theorem and_neg {q t : Nat} (h : q % 2 = 1) : Builtin.bitAnd ((q * 2 ^ t : Nat) : Int) (-((q * 2 ^ t : Nat) : Int)) = ((2 ^ t : Nat) : Int) := by
  have hq : 0 < q := by omega
  have hp : 0 < q * 2 ^ t := Nat.mul_pos hq (Nat.two_pow_pos t)
  have hle : 2 ^ t ≤ q * 2 ^ t := Nat.le_mul_of_pos_left _ hq
  have ha := and_pred q h t
  generalize q * 2 ^ t = m at *
  rw [PyProof.Rows.bitAnd_pn (by omega) (by omega)]
  have e : (Builtin.bitNot (-(m : Int))).toNat = m - 1 := by unfold Builtin.bitNot; omega
  rw [e, Int.toNat_natCast, ha]
  omega
end Mine

end
section
open PySem
namespace Mine
theorem rat_frac {v : Rat} (h : 0 < v) : ∃ N D : Nat, 0 < N ∧ 0 < D ∧ v * (D : Rat) = (N : Rat) := by
  have hD0 : 0 < v.den := v.den_pos
  have hDr : (0 : Rat) < (v.den : Rat) := Rat.natCast_pos.mpr hD0
  have hv : v * (v.den : Rat) = (v.num : Rat) := by
    have e := Rat.mkRat_self v
    rw [Rat.mkRat_eq_div] at e
    have e2 : (v.num : Rat) / (v.den : Rat) * (v.den : Rat) = (v.num : Rat) := Rat.div_mul_cancel (Rat.ne_of_gt hDr)
    rw [e] at e2
    exact e2
  have hn : 0 < v.num := by
    have : (0 : Rat) < (v.num : Rat) := by rw [← hv]; exact Rat.mul_pos h hDr
    exact Rat.intCast_pos.mp this
  obtain ⟨N, hN⟩ := Int.eq_ofNat_of_zero_le (Int.le_of_lt hn)
  refine ⟨N, v.den, by omega, hD0, ?_⟩
  rw [hv, hN]; rfl
theorem pw_ex {v : Rat} (h : 0 < v) : ∃ k : Int, pw k ≤ v ∧ v < pw (k + 1) := by
  obtain ⟨N, D, hN, hD, e⟩ := rat_frac h
  have n1 := bl_lo hN; have n2 := bl_up N; have d1 := bl_lo hD; have d2 := bl_up D
  have b1 := bl_ge1 hN; have b2 := bl_ge1 hD
  have hDr : (0 : Rat) < (D : Rat) := Rat.natCast_pos.mpr hD
  have n1' : pw ((bl N : Int) - 1) ≤ (N : Rat) := by
    rw [show (bl N : Int) - 1 = ((bl N - 1 : Nat) : Int) by omega, pw_nat]; exact_mod_cast n1
  have n2' : (N : Rat) < pw (bl N) := by rw [pw_nat]; exact_mod_cast n2
  have d1' : pw ((bl D : Int) - 1) ≤ (D : Rat) := by
    rw [show (bl D : Int) - 1 = ((bl D - 1 : Nat) : Int) by omega, pw_nat]; exact_mod_cast d1
  have d2' : (D : Rat) < pw (bl D) := by rw [pw_nat]; exact_mod_cast d2
  -- v lies between the two powers
  have hi : v < pw ((bl N : Int) - bl D + 1) := by
    have : v * (D : Rat) < pw ((bl N : Int) - bl D + 1) * (D : Rat) := by
      rw [e]
      have := Rat.mul_le_mul_of_nonneg_left d1' (Rat.le_of_lt (pw_pos ((bl N : Int) - bl D + 1)))
      rw [← pw_add, show (bl N : Int) - bl D + 1 + (bl D - 1) = bl N by omega] at this
      grind
    exact (mul_lt_cancel hDr).mp this
  have lo : pw ((bl N : Int) - bl D - 1) ≤ v := by
    have : pw ((bl N : Int) - bl D - 1) * (D : Rat) ≤ v * (D : Rat) := by
      rw [e]
      have := Rat.mul_le_mul_of_nonneg_left (Rat.le_of_lt d2') (Rat.le_of_lt (pw_pos ((bl N : Int) - bl D - 1)))
      rw [← pw_add, show (bl N : Int) - bl D - 1 + bl D = bl N - 1 by omega] at this
      grind
    exact (mul_le_cancel hDr).mp this
  by_cases c : pw ((bl N : Int) - bl D) ≤ v
  · exact ⟨_, c, hi⟩
  · refine ⟨(bl N : Int) - bl D - 1, lo, ?_⟩
    rw [show (bl N : Int) - bl D - 1 + 1 = bl N - bl D by omega]
    grind
/-- the whole part of a number from nought on -/
theorem nat_floor {v : Rat} (h : 0 ≤ v) : ∃ z : Nat, (z : Rat) ≤ v ∧ v < (z : Rat) + 1 := by
  have f0 : 0 ≤ v.floor := Rat.le_floor_iff.mpr h
  obtain ⟨z, hz⟩ := Int.eq_ofNat_of_zero_le f0
  have f1 := Rat.floor_le v
  have f2 := Rat.lt_floor_add_one v
  rw [hz] at f1 f2
  have e : ((z + 1 : Int) : Rat) = (z : Rat) + 1 := by push_cast; rfl
  rw [e] at f2
  exact ⟨z, f1, f2⟩
theorem pw_mul_neg (k : Int) : pw (-k) * pw k = 1 := by have := pw_neg k; grind
/-- scaling -/
theorem scaled {v : Rat} (h : 0 ≤ v) (q : Int) : ∃ z : Nat, (z : Rat) * pw q ≤ v ∧ v < ((z : Rat) + 1) * pw q := by
  obtain ⟨z, h1, h2⟩ := nat_floor (v := v * pw (-q)) (Rat.mul_nonneg h (Rat.le_of_lt (pw_pos _)))
  have e : v * pw (-q) * pw q = v := by rw [Rat.mul_assoc, pw_mul_neg, Rat.mul_one]
  refine ⟨z, ?_, ?_⟩
  · have := Rat.mul_le_mul_of_nonneg_right h1 (Rat.le_of_lt (pw_pos q)); rw [e] at this; exact this
  · have := (mul_lt_cancel (pw_pos q)).mpr h2; rw [e] at this; exact this
theorem RDn.err {p : Nat} {v r : Rat} (R : RDn p v r) (h : 0 < v) : (v - r) * pw ((p : Int) - 1) ≤ v := by
  obtain ⟨k, h1, h2⟩ := pw_ex h
  obtain ⟨z, z1, z2⟩ := scaled (Rat.le_of_lt h) (k + 1 - p)
  have hz : z < 2 ^ p := by
    have : (z : Rat) * pw (k + 1 - p) < ((2 ^ p : Nat) : Rat) * pw (k + 1 - p) := by
      rw [← pw_nat, ← pw_add, show (p : Int) + (k + 1 - p) = k + 1 by omega]; grind
    rw [clt] at this; exact this
  have a := R.top z _ hz z1
  have e : v - r ≤ pw (k + 1 - p) := by grind
  have := Rat.mul_le_mul_of_nonneg_right e (Rat.le_of_lt (pw_pos ((p : Int) - 1)))
  rw [← pw_add, show k + 1 - (p : Int) + (p - 1) = k by omega] at this
  grind
theorem RUp.err {p : Nat} {v r : Rat} (R : RUp p v r) (h : 0 < v) (hp : 2 ≤ p) : (r - v) * pw ((p : Int) - 1) ≤ v := by
  obtain ⟨k, h1, h2⟩ := pw_ex h
  obtain ⟨z, z1, z2⟩ := scaled (Rat.le_of_lt h) (k + 1 - p)
  have hz : z < 2 ^ p := by
    have : (z : Rat) * pw (k + 1 - p) < ((2 ^ p : Nat) : Rat) * pw (k + 1 - p) := by
      rw [← pw_nat, ← pw_add, show (p : Int) + (k + 1 - p) = k + 1 by omega]; grind
    rw [clt] at this; exact this
  have z2' : v ≤ ((z + 1 : Nat) : Rat) * pw (k + 1 - p) := by
    have : ((z + 1 : Nat) : Rat) = (z : Rat) + 1 := by push_cast; rfl
    rw [this]; grind
  have a : r ≤ ((z + 1 : Nat) : Rat) * pw (k + 1 - p) := by
    rcases Nat.lt_or_ge (z + 1) (2 ^ p) with hlt | hge
    · exact R.top _ _ hlt z2'
    · have ez : z + 1 = 2 ^ p := by omega
      have e2 : ((z + 1 : Nat) : Rat) * pw (k + 1 - p) = ((1 : Nat) : Rat) * pw (k + 1) := by
        rw [ez, ← pw_nat, ← pw_add, show (p : Int) + (k + 1 - p) = k + 1 by omega, show ((1 : Nat) : Rat) = 1 from rfl, Rat.one_mul]
      rw [e2]
      exact R.top 1 _ (Nat.one_lt_two_pow (by omega)) (by rw [← e2]; exact z2')
  have e : r - v ≤ pw (k + 1 - p) := by
    have : ((z + 1 : Nat) : Rat) = (z : Rat) + 1 := by push_cast; rfl
    rw [this] at a; grind
  have := Rat.mul_le_mul_of_nonneg_right e (Rat.le_of_lt (pw_pos ((p : Int) - 1)))
  rw [← pw_add, show k + 1 - (p : Int) + (p - 1) = k by omega] at this
  grind

/-- what lies strictly within two units of an even number is rounded as the odd number between, to so few bits -/
theorem even_of {p c a : Nat} {k E : Int} (hc : c < 2 ^ p) (ha : 2 ^ p ≤ a) (h : (a : Rat) * pw E < (c : Rat) * pw k) : ∃ b : Nat, (c : Rat) * pw k = ((2 * b : Nat) : Rat) * pw E := by
  have hk : E + 1 ≤ k := by
    rcases (by omega : k ≤ E ∨ E + 1 ≤ k) with hq | hq
    · exfalso
      have a1 := Rat.mul_le_mul_of_nonneg_left (pw_mono hq) (Rat.natCast_nonneg (a := c))
      have a2 : (c : Rat) * pw E < (a : Rat) * pw E := clt.mpr (by omega)
      grind
    · exact hq
  refine ⟨c * 2 ^ (k - E - 1).toNat, ?_⟩
  rw [lift (q := E) (by omega), show (k - E).toNat = (k - E - 1).toNat + 1 by omega, Nat.pow_succ]
  congr 2
  grind
theorem sticky_dn {p h M : Nat} {E E' : Int} {W : Rat} (hp : 2 ^ p ≤ 2 * h) (h1 : ((2 * h : Nat) : Rat) * pw E < W) (h2 : W < ((2 * h + 2 : Nat) : Rat) * pw E) (hM : bl M ≤ p)
    (R : RDn p (((2 * h + 1 : Nat) : Rat) * pw E) (M * pw E')) : RDn p W (M * pw E') := by
  constructor
  · rcases (by grind : (M : Rat) * pw E' ≤ ((2 * h : Nat) : Rat) * pw E ∨ ((2 * h : Nat) : Rat) * pw E < (M : Rat) * pw E') with c | c
    · grind
    · exfalso
      obtain ⟨b, e⟩ := even_of (bl_le.mp hM) hp c
      have l := R.le
      rw [e] at c l
      rw [clt] at c
      rw [cle] at l
      omega
  · intro c k hc hk
    refine R.top c k hc ?_
    rcases (by grind : (c : Rat) * pw k ≤ ((2 * h : Nat) : Rat) * pw E ∨ ((2 * h : Nat) : Rat) * pw E < (c : Rat) * pw k) with q | q
    · have : ((2 * h : Nat) : Rat) * pw E ≤ ((2 * h + 1 : Nat) : Rat) * pw E := cle.mpr (by omega)
      grind
    · exfalso
      obtain ⟨b, e⟩ := even_of hc hp q
      rw [e] at hk q
      rw [clt] at q
      have : ((2 * b : Nat) : Rat) * pw E < ((2 * h + 2 : Nat) : Rat) * pw E := by grind
      rw [clt] at this
      omega
theorem sticky_up {p h M : Nat} {E E' : Int} {W : Rat} (hp : 2 ^ p ≤ 2 * h) (h1 : ((2 * h : Nat) : Rat) * pw E < W) (h2 : W < ((2 * h + 2 : Nat) : Rat) * pw E) (hM : bl M ≤ p)
    (R : RUp p (((2 * h + 1 : Nat) : Rat) * pw E) (M * pw E')) : RUp p W (M * pw E') := by
  constructor
  · have l := R.le
    have q : ((2 * h : Nat) : Rat) * pw E < (M : Rat) * pw E' := by
      have : ((2 * h : Nat) : Rat) * pw E < ((2 * h + 1 : Nat) : Rat) * pw E := clt.mpr (by omega)
      grind
    obtain ⟨b, e⟩ := even_of (bl_le.mp hM) hp q
    rw [e] at l q ⊢
    rw [cle] at l
    rw [clt] at q
    have : ((2 * h + 2 : Nat) : Rat) * pw E ≤ ((2 * b : Nat) : Rat) * pw E := cle.mpr (by omega)
    grind
  · intro c k hc hk
    refine R.top c k hc ?_
    have q : ((2 * h : Nat) : Rat) * pw E < (c : Rat) * pw k := by grind
    obtain ⟨b, e⟩ := even_of hc hp q
    rw [e] at q ⊢
    rw [clt] at q
    exact cle.mpr (by omega)
end Mine

end
section
open PySem
namespace Mine
theorem sq_le {a b : Rat} (hb : 0 ≤ b) (h : a * a ≤ b * b) : a ≤ b := by
  rcases (by grind : a ≤ b ∨ b < a) with c | c
  · exact c
  · exfalso
    have h1 : b * b ≤ b * a := Rat.mul_le_mul_of_nonneg_left (Rat.le_of_lt c) hb
    have h2 : b * a < a * a := Rat.mul_lt_mul_of_pos_right c (by grind)
    grind
theorem sq_lt {a b : Rat} (hb : 0 ≤ b) (h : a * a < b * b) : a < b := by
  rcases (by grind : a < b ∨ b ≤ a) with c | c
  · exact c
  · exfalso
    have h1 : b * b ≤ b * a := Rat.mul_le_mul_of_nonneg_left c hb
    have h2 : b * a ≤ a * a := Rat.mul_le_mul_of_nonneg_right c (by grind)
    grind
theorem le_sq {a b : Rat} (ha : 0 ≤ a) (h : a ≤ b) : a * a ≤ b * b := by
  have h1 : a * a ≤ a * b := Rat.mul_le_mul_of_nonneg_left h ha
  have h2 : a * b ≤ b * b := Rat.mul_le_mul_of_nonneg_right h (by grind)
  grind
theorem lt_sq {a b : Rat} (ha : 0 ≤ a) (h : a < b) : a * a < b * b := by
  have h1 : a * a ≤ a * b := Rat.mul_le_mul_of_nonneg_left (Rat.le_of_lt h) ha
  have h2 : a * b < b * b := Rat.mul_lt_mul_of_pos_right h (by grind)
  grind
/-- r is the root of v rounded down, up, to p bits -/
structure SDn (p : Nat) (v r : Rat) : Prop where
  le : r * r ≤ v
  top : ∀ (c : Nat) (k : Int), c < 2 ^ p → ((c : Rat) * pw k) * ((c : Rat) * pw k) ≤ v → (c : Rat) * pw k ≤ r
structure SUp (p : Nat) (v r : Rat) : Prop where
  le : v ≤ r * r
  top : ∀ (c : Nat) (k : Int), c < 2 ^ p → v ≤ ((c : Rat) * pw k) * ((c : Rat) * pw k) → r ≤ (c : Rat) * pw k
def SDir (dn : Bool) (p : Nat) (v r : Rat) : Prop := if dn then SDn p v r else SUp p v r
theorem nn (c : Nat) (k : Int) : (0 : Rat) ≤ c * pw k := Rat.mul_nonneg Rat.natCast_nonneg (Rat.le_of_lt (pw_pos k))
theorem sqpw (c : Nat) (k : Int) : ((c : Rat) * pw k) * ((c : Rat) * pw k) = ((c * c : Nat) : Rat) * pw (2 * k) := by
  rw [show 2 * k = k + k by omega, pw_add, Rat.natCast_mul]; grind
/-- the root of a square -/
theorem sdir_exact {dn : Bool} {p c : Nat} {k : Int} {v r : Rat} (hv : v = ((c : Rat) * pw k) * ((c : Rat) * pw k)) (D : if dn then RDn p (c * pw k) r else RUp p (c * pw k) r) (hr : 0 ≤ r) : SDir dn p v r := by
  subst hv
  cases dn with
  | true =>
    exact ⟨le_sq hr D.le, fun c' k' hc h => D.top c' k' hc (sq_le (nn c k) h)⟩
  | false =>
    exact ⟨le_sq (nn c k) D.le, fun c' k' hc h => D.top c' k' hc (sq_le (nn c' k') h)⟩
theorem root_dn {p N R M : Nat} {E E' : Int} {v : Rat} (hv : v = (N : Rat) * pw (2 * E)) (h1 : R * R ≤ N) (h2 : N < (R + 1) * (R + 1)) (hp : 2 ^ p ≤ R) (D : RDn p (R * pw E) (M * pw E')) : SDn p v (M * pw E') := by
  subst hv
  constructor
  · have a := le_sq (nn M E') D.le
    rw [sqpw R E] at a
    have b : ((R * R : Nat) : Rat) * pw (2 * E) ≤ (N : Rat) * pw (2 * E) := cle.mpr h1
    grind
  · intro c k hc h
    refine D.top c k hc ?_
    rcases (by omega : k ≤ E ∨ E ≤ k) with hk | hk
    · rw [lift (c := R) hk, cle]
      have := Nat.le_mul_of_pos_right R (Nat.two_pow_pos (E - k).toNat)
      omega
    · rw [lift hk] at h ⊢
      rw [cle]
      rw [sqpw, cle] at h
      generalize c * 2 ^ (k - E).toNat = c' at *
      rcases Nat.lt_or_ge R c' with q | q
      · have := Nat.mul_le_mul (show R + 1 ≤ c' from q) (show R + 1 ≤ c' from q); omega
      · exact q
theorem root_up {p N R M : Nat} {E E' : Int} {v : Rat} (hv : v = (N : Rat) * pw (2 * E)) (h1 : R * R < N) (h2 : N < (R + 1) * (R + 1)) (hp : 2 ^ p ≤ R) (hM : bl M ≤ p) (D : RUp p (((2 * R + 1 : Nat) : Rat) * pw (E - 1)) (M * pw E')) : SUp p v (M * pw E') := by
  subst hv
  have half : ∀ c : Nat, (c : Rat) * pw E = ((2 * c : Nat) : Rat) * pw (E - 1) := by
    intro c
    have : pw E = pw ((E - 1) + ((1 : Nat) : Int)) := by congr 1; omega
    rw [this, liftn]; congr 2; omega
  have eR : (R : Rat) * pw E = ((2 * R : Nat) : Rat) * pw (E - 1) := half R
  have eR1 : ((R + 1 : Nat) : Rat) * pw E = ((2 * R + 2 : Nat) : Rat) * pw (E - 1) := half (R + 1)
  have hN : (N : Rat) * pw (2 * E) < (((R + 1 : Nat) : Rat) * pw E) * (((R + 1 : Nat) : Rat) * pw E) := by rw [sqpw, clt]; exact h2
  have hN1 : ((R : Rat) * pw E) * ((R : Rat) * pw E) < (N : Rat) * pw (2 * E) := by rw [sqpw, clt]; exact h1
  constructor
  · have q : ((2 * R : Nat) : Rat) * pw (E - 1) < (M : Rat) * pw E' := by
      have : ((2 * R : Nat) : Rat) * pw (E - 1) < ((2 * R + 1 : Nat) : Rat) * pw (E - 1) := clt.mpr (by omega)
      have := D.le
      grind
    obtain ⟨b, e⟩ := even_of (bl_le.mp hM) (by omega) q
    have l := D.le
    rw [e] at l q
    rw [cle] at l
    have b1 : ((2 * R + 2 : Nat) : Rat) * pw (E - 1) ≤ ((2 * b : Nat) : Rat) * pw (E - 1) := cle.mpr (by omega)
    rw [← eR1, ← e] at b1
    have := le_sq (nn _ _) b1
    grind
  · intro c k hc h
    refine D.top c k hc ?_
    have q : (R : Rat) * pw E < (c : Rat) * pw k := sq_lt (nn c k) (by grind)
    rw [eR] at q
    obtain ⟨b, e⟩ := even_of hc (by omega) q
    rw [e] at q ⊢
    rw [clt] at q
    exact cle.mpr (by omega)
end Mine

end
section
open PySem
namespace Mine
/-- the interval holds (m + √n)/d, by squares (with whole numbers as rationals) -/
def CutR (lo hi m d n : Rat) : Prop := (lo * d - m ≤ 0 ∨ (lo * d - m) * (lo * d - m) ≤ n) ∧ 0 ≤ hi * d - m ∧ n ≤ (hi * d - m) * (hi * d - m)
theorem CutR.le {lo hi m d n : Rat} (C : CutR lo hi m d n) (hd : 0 < d) : lo ≤ hi := by
  have h : lo * d - m ≤ hi * d - m := by
    rcases C.1 with h | h
    · have := C.2.1; grind
    · exact sq_le C.2.1 (by have := C.2.2; grind)
  exact (mul_le_cancel hd).mp (by grind)
theorem mle {a b c : Rat} (h : a ≤ b) (hc : 0 ≤ c) : a * c ≤ b * c := Rat.mul_le_mul_of_nonneg_right h hc
theorem mlt {a b c : Rat} (h : a < b) (hc : 0 < c) : a * c < b * c := (mul_lt_cancel hc).mpr h
/-- taking off and turning over -/
theorem cut_turn {lo hi m d n a lo' hi' rl rh m' d' : Rat} (C : CutR lo hi m d n) (hd : 0 < d) (hm' : m' = a * d - m) (hm0 : 0 ≤ m') (hd' : d * d' = n - m' * m') (hd0 : 0 < d')
    (hrl : 0 < rl) (h1 : rl ≤ lo - a) (h2 : hi - a ≤ rh) (h3 : lo' * rh ≤ 1) (h4 : 1 ≤ hi' * rl) (hlo : 0 < lo') (hhi : 0 < hi') (hah : a ≤ hi) : CutR lo' hi' m' d' n := by
  have hn : m' * m' < n := by have := Rat.mul_pos hd hd0; grind
  constructor
  · -- the lower end
    have hh : lo' * (hi - a) ≤ 1 := by have := Rat.mul_le_mul_of_nonneg_left h2 (Rat.le_of_lt hlo); grind
    rcases (by grind : lo' * d' - m' ≤ 0 ∨ 0 < lo' * d' - m') with q | q
    · exact .inl q
    · right
      rcases (by grind : (lo' * d' - m') * (lo' * d' - m') ≤ n ∨ n < (lo' * d' - m') * (lo' * d' - m')) with p | p
      · exact p
      · exfalso
        generalize hX : lo' * d' - m' = X at *
        generalize hA : hi * d - m = A at *
        have hA0 := C.2.1
        have hA2 := C.2.2
        rw [hA] at hA0 hA2
        have e1 : (X + m') * (A - m') ≤ n - m' * m' := by
          have : (X + m') * (A - m') = (lo' * (hi - a)) * (d * d') := by rw [← hX, ← hA, hm']; grind
          rw [this, ← hd']
          have := mle hh (Rat.le_of_lt (Rat.mul_pos hd hd0))
          grind
        have hAm : m' < A := by
          have ge : m' ≤ A := by rw [← hA, hm']; have := mle hah (Rat.le_of_lt hd); grind
          rcases (by grind : m' < A ∨ m' = A) with z | z
          · exact z
          · exfalso; rw [← z] at hA2; grind
        rcases (by grind : X ≤ A ∨ A < X) with z | z
        · have := mle z (Rat.le_of_lt q)
          have := mle (show 0 ≤ A - X by grind) hm0
          grind
        · have := mlt z (show 0 < A - m' by grind)
          grind
  · have hg : 1 ≤ hi' * (lo - a) := by have := Rat.mul_le_mul_of_nonneg_left h1 (Rat.le_of_lt hhi); grind
    generalize hY : hi' * d' - m' = Y at *
    generalize hB : lo * d - m = B at *
    have hla : 0 < lo - a := by grind
    have hBm : m' < B := by rw [← hB, hm']; have := Rat.mul_pos hla hd; grind
    have hB2 : B * B ≤ n := by
      have := C.1
      rw [hB] at this
      rcases this with z | z
      · exfalso; grind
      · exact z
    have e1 : n - m' * m' ≤ (Y + m') * (B - m') := by
      have : (Y + m') * (B - m') = (hi' * (lo - a)) * (d * d') := by rw [← hY, ← hB, hm']; grind
      rw [this, ← hd']
      have := mle hg (Rat.le_of_lt (Rat.mul_pos hd hd0))
      grind
    have hY0 : 0 ≤ Y := by
      rcases (by grind : 0 ≤ Y ∨ Y < 0) with z | z
      · exact z
      · exfalso
        have a1 := mlt z (show 0 < B - m' by grind)
        have a2 := mle (show m' ≤ B by grind) (show 0 ≤ B by grind)
        grind
    refine ⟨hY0, ?_⟩
    rcases (by grind : n ≤ Y * Y ∨ Y * Y < n) with p | p
    · exact p
    · exfalso
      rcases (by grind : B ≤ Y ∨ Y < B) with z | z
      · have a1 := mle z hm0
        have a2 := mle z hY0
        grind
      · have a1 := mlt z (show 0 < B - m' by grind)
        grind
/-- folding up again -/
theorem cut_fold {lo hi m d n a lo' hi' ql qh m' d' : Rat} (C : CutR lo' hi' m' d' n) (hd : 0 < d) (hm' : m' = a * d - m) (hm0 : 0 ≤ m') (hd' : d * d' = n - m' * m') (hd0 : 0 < d') (hn : 0 < n)
    (hlo : 0 < lo') (hhi : 0 < hi') (h1 : ql * hi' ≤ 1) (h2 : 1 ≤ qh * lo') (h3 : lo ≤ a + ql) (h4 : a + qh ≤ hi) (hqh : 0 < qh) (hql : 0 < ql) : CutR lo hi m d n := by
  constructor
  · -- the lower end: the true value is m' + d / hi'
    have g1 : lo * d - m ≤ m' + ql * d := by rw [hm']; have := mle h3 (Rat.le_of_lt hd); grind
    generalize hB0 : m' + ql * d = B0 at *
    have hqd := Rat.mul_pos hql hd
    have hBm : m' < B0 := by grind
    have key : B0 * B0 ≤ n := by
      have hY0 := C.2.1
      have hY2 := C.2.2
      generalize hY : hi' * d' - m' = Y at *
      have e1 : (Y + m') * (B0 - m') ≤ n - m' * m' := by
        have : (Y + m') * (B0 - m') = (ql * hi') * (d * d') := by rw [← hY, ← hB0]; grind
        rw [this, ← hd']
        have := mle h1 (Rat.le_of_lt (Rat.mul_pos hd hd0))
        grind
      have hYp : 0 < Y := by
        rcases (by grind : 0 < Y ∨ Y = 0) with z | z
        · exact z
        · exfalso; rw [z] at hY2; grind
      rcases (by grind : B0 * B0 ≤ n ∨ n < B0 * B0) with p | p
      · exact p
      · exfalso
        rcases (by grind : B0 ≤ Y ∨ Y < B0) with z | z
        · have := mle z (show 0 ≤ B0 - m' by grind); grind
        · have a1 := mle (show Y ≤ B0 by grind) hm0
          have a2 := mlt z hYp
          grind
    rcases (by grind : lo * d - m ≤ 0 ∨ 0 ≤ lo * d - m) with q | q
    · exact .inl q
    · exact .inr (by have := le_sq q g1; grind)
  · have g1 : m' + qh * d ≤ hi * d - m := by rw [hm']; have := mle h4 (Rat.le_of_lt hd); grind
    generalize hA0 : m' + qh * d = A0 at *
    have hqd := Rat.mul_pos hqh hd
    have hAm : m' < A0 := by grind
    have key : n ≤ A0 * A0 := by
      have hX := C.1
      have hXp : 0 < lo' * d' := Rat.mul_pos hlo hd0
      generalize hX' : lo' * d' - m' = X at *
      have e1 : n - m' * m' ≤ (X + m') * (A0 - m') := by
        have : (X + m') * (A0 - m') = (qh * lo') * (d * d') := by rw [← hX', ← hA0]; grind
        rw [this, ← hd']
        have := mle h2 (Rat.le_of_lt (Rat.mul_pos hd hd0))
        grind
      rcases (by grind : n ≤ A0 * A0 ∨ A0 * A0 < n) with p | p
      · exact p
      · exfalso
        rcases (by grind : X ≤ A0 ∨ A0 < X) with z | z
        · have := mle z (show 0 ≤ A0 - m' by grind); grind
        · have hX2 : X * X ≤ n := by
            rcases hX with y | y
            · exfalso; grind
            · exact y
          have a1 := mle (show A0 ≤ X by grind) hm0
          have a2 := mlt z (show 0 < X by grind)
          grind
    refine ⟨by grind, ?_⟩
    have := le_sq (show 0 ≤ A0 by grind) g1
    grind
end Mine

end
section
open PySem
namespace Mine
/-- the figures' state: (m + √n)/d -/
structure FS (n whole m d : Nat) : Prop where
  w1 : whole * whole ≤ n
  w2 : n < (whole + 1) * (whole + 1)
  d1 : 1 ≤ d
  mw : m ≤ whole
  dw : d ≤ whole + m
  dv : ∃ c, n = m * m + d * c
theorem FS.start {n whole : Nat} (w1 : whole * whole ≤ n) (w2 : n < (whole + 1) * (whole + 1)) (h : 1 ≤ whole) : FS n whole 0 1 :=
  ⟨w1, w2, Nat.le_refl _, Nat.zero_le _, by omega, n, by omega⟩
theorem sq_mono {a b : Nat} (h : a * a ≤ b) {w : Nat} (hw : b < (w + 1) * (w + 1)) : a ≤ w := by
  rcases Nat.lt_or_ge w a with q | q
  · have := Nat.mul_le_mul (show w + 1 ≤ a from q) (show w + 1 ≤ a from q); omega
  · exact q
theorem FS.step {n whole m d : Nat} (F : FS n whole m d) : ∃ m' d', (whole + m) / d * d = m + m' ∧ 1 ≤ (whole + m) / d ∧ 1 ≤ m' ∧ m' ≤ whole ∧ n = m' * m' + d * d' ∧ d' ≤ whole + m' ∧ (1 ≤ d' → FS n whole m' d') := by
  obtain ⟨c, hc⟩ := F.dv
  have hd := F.d1
  have h1 := Nat.div_add_mod (whole + m) d
  have h2 := Nat.mod_lt (whole + m) hd
  have ha : 1 ≤ (whole + m) / d := Nat.div_pos F.dw hd
  generalize (whole + m) / d = a at *
  generalize (whole + m) % d = r at *
  rw [Nat.mul_comm] at h1
  have hm : m + 1 ≤ a * d := by
    rcases Nat.lt_or_ge whole d with q | q
    · have := Nat.mul_le_mul_right d ha
      have := F.mw; omega
    · have := F.mw; omega
  obtain ⟨m', hm'⟩ := Nat.exists_eq_add_of_le (show m ≤ a * d by omega)
  have hmw : m' ≤ whole := by omega
  have hmn : m' * m' ≤ n := Nat.le_trans (Nat.mul_le_mul hmw hmw) F.w1
  have e : (n : Int) - m' * m' = d * (c - a * a * d + 2 * a * m) := by
    have : (m' : Int) = a * d - m := by
      have := congrArg (fun x : Nat => (x : Int)) hm'
      push_cast at this; omega
    rw [this, hc]; push_cast; grind
  have hd' : ∃ d' : Nat, n = m' * m' + d * d' := by
    refine ⟨((c : Int) - a * a * d + 2 * a * m).toNat, ?_⟩
    have nn : 0 ≤ (c : Int) - a * a * d + 2 * a * m := by
      rcases Int.lt_or_le ((c : Int) - a * a * d + 2 * a * m) 0 with q | q
      · exfalso
        have : (d : Int) * ((c : Int) - a * a * d + 2 * a * m) < 0 := Int.mul_neg_of_pos_of_neg (by omega) q
        have : (m' : Int) * m' ≤ n := by exact_mod_cast hmn
        omega
      · exact q
    have := Int.toNat_of_nonneg nn
    apply Int.ofNat.inj
    show (n : Int) = ((m' * m' + d * ((c : Int) - a * a * d + 2 * a * m).toNat : Nat) : Int)
    push_cast
    rw [this, ← e]; omega
  obtain ⟨d', hd'⟩ := hd'
  have hle : d' ≤ whole + m' := by
    rcases Nat.lt_or_ge (whole + m') d' with q | q
    · exfalso
      have b1 : whole + 1 ≤ m' + d := by omega
      obtain ⟨t, ht⟩ := Nat.exists_eq_add_of_le (show m' ≤ whole + 1 by omega)
      have b2 : t ≤ d := by omega
      have b3 := Nat.mul_le_mul b2 (show whole + m' + 1 ≤ d' from q)
      have b4 : t * (whole + m' + 1) + m' * m' = (whole + 1) * (whole + 1) := by
        have : whole + m' + 1 = (m' + t) + m' := by omega
        rw [this, ht]; grind
      have := F.w2
      omega
    · exact q
  refine ⟨m', d', hm', ha, by omega, hmw, hd', hle, fun h => ⟨F.w1, F.w2, h, hmw, hle, d, by rw [Nat.mul_comm d' d]; exact hd'⟩⟩
/-- both ends tell one figure: it is the plain one -/
theorem figure {n whole m d z : Nat} {lo hi : Rat} (w1 : whole * whole ≤ n) (w2 : n < (whole + 1) * (whole + 1)) (hd : 1 ≤ d) (C : CutR lo hi m d n) (h1 : (z : Rat) ≤ lo) (h2 : hi < (z : Rat) + 1) : z = (whole + m) / d := by
  have hd' : (0 : Rat) < d := Rat.natCast_pos.mpr hd
  have up : z * d ≤ whole + m := by
    rcases Nat.lt_or_ge (whole + m) (z * d) with q | q
    · exfalso
      obtain ⟨y, hy⟩ := Nat.exists_eq_add_of_le (show m ≤ z * d by omega)
      have e : (z : Rat) * d - m = y := by
        have := congrArg (fun x : Nat => (x : Rat)) hy
        push_cast at this; grind
      have h3 := mle h1 (Rat.le_of_lt hd')
      have h4 : (y : Rat) ≤ lo * d - m := by grind
      have ypos : (0 : Rat) < y := Rat.natCast_pos.mpr (by omega)
      have h5 : (y : Rat) * y ≤ n := by
        rcases C.1 with z' | z'
        · exfalso; grind
        · have := le_sq (Rat.le_of_lt ypos) h4; grind
      have h6 : y * y ≤ n := by exact_mod_cast h5
      have := sq_mono h6 w2
      omega
    · exact q
  have dn : whole + m < (z + 1) * d := by
    rcases Nat.lt_or_ge (whole + m) ((z + 1) * d) with q | q
    · exact q
    · exfalso
      have h3 := mlt h2 hd'
      have h0 := C.2.1
      have g : ((z : Rat) + 1) * d - m ≤ whole := by
        have : (((z + 1) * d : Nat) : Rat) ≤ ((whole + m : Nat) : Rat) := by exact_mod_cast q
        push_cast at this; grind
      have h4 : hi * d - m < whole := by grind
      have h5 := lt_sq h0 h4
      have h6 := C.2.2
      have h7 : (n : Rat) < ((whole * whole : Nat) : Rat) := by push_cast; grind
      have : n < whole * whole := by exact_mod_cast h7
      omega
  have hd0 : 0 < d := hd
  have a1 : z ≤ (whole + m) / d := (Nat.le_div_iff_mul_le hd0).mpr up
  have a2 : (whole + m) / d < z + 1 := (Nat.div_lt_iff_lt_mul hd0).mpr dn
  omega
/-- Pell's equation with the plain rest -/
structure Nm (n m d P Q P' Q' s : Int) : Prop where
  n0 : P * P - n * (Q * Q) = s * d
  n1 : P * P' - n * (Q * Q') = -(s * m)
  n2 : d * (P' * P' - n * (Q' * Q')) = -(s * (n - m * m))
theorem Nm.start (n : Int) : Nm n 0 1 1 0 0 1 1 := ⟨by grind, by grind, by grind⟩
theorem Nm.step {n m d P Q P' Q' s a m' d' : Int} (N : Nm n m d P Q P' Q' s) (hd : d ≠ 0) (hm : m' = a * d - m) (h : n = m' * m' + d * d') : Nm n m' d' (a * P + P') (a * Q + Q') P Q (-s) := by
  obtain ⟨n0, n1, n2⟩ := N
  refine ⟨?_, ?_, ?_⟩
  · apply Int.eq_of_mul_eq_mul_left hd
    have e : d * ((a * P + P') * (a * P + P') - n * ((a * Q + Q') * (a * Q + Q'))) = d * (a * a) * (P * P - n * (Q * Q)) + 2 * a * d * (P * P' - n * (Q * Q')) + d * (P' * P' - n * (Q' * Q')) := by grind
    rw [e, n0, n1, n2]
    have : n - m * m = a * d * (a * d) - 2 * (a * d) * m + d * d' := by rw [h, hm]; grind
    grind
  · have e : (a * P + P') * P - n * ((a * Q + Q') * Q) = a * (P * P - n * (Q * Q)) + (P * P' - n * (Q * Q')) := by grind
    rw [e, n0, n1, hm]; grind
  · rw [n0]; grind
end Mine

end
section
open PySem
namespace Mine
theorem one_lt_pow {p : Nat} (hp : 1 ≤ p) : 1 < 2 ^ p := Nat.one_lt_two_pow (by omega)
theorem RDn.ge_pw {p : Nat} {v r : Rat} {k : Int} (R : RDn p v r) (hp : 1 ≤ p) (h : pw k ≤ v) : pw k ≤ r := by
  have := R.top 1 k (one_lt_pow hp) (by push_cast; grind)
  push_cast at this; grind
theorem RUp.le_pw {p : Nat} {v r : Rat} {k : Int} (R : RUp p v r) (hp : 1 ≤ p) (h : v ≤ pw k) : r ≤ pw k := by
  have := R.top 1 k (one_lt_pow hp) (by push_cast; grind)
  push_cast at this; grind
theorem SDn.ge_pw {p : Nat} {v r : Rat} {k : Int} (R : SDn p v r) (hp : 1 ≤ p) (h : pw k * pw k ≤ v) : pw k ≤ r := by
  have := R.top 1 k (one_lt_pow hp) (by push_cast; grind)
  push_cast at this; grind
theorem SUp.le_pw {p : Nat} {v r : Rat} {k : Int} (R : SUp p v r) (hp : 1 ≤ p) (h : v ≤ pw k * pw k) : r ≤ pw k := by
  have := R.top 1 k (one_lt_pow hp) (by push_cast; grind)
  push_cast at this; grind
theorem inv_le {a b : Rat} (hb : 0 < b) (h : 1 ≤ a * b) : 1 / b ≤ a := by
  rcases (by grind : 1 / b ≤ a ∨ a < 1 / b) with q | q
  · exact q
  · have := (Rat.lt_div_iff hb).mp q; grind
theorem le_inv {a b : Rat} (hb : 0 < b) (h : a * b ≤ 1) : a ≤ 1 / b := by
  rcases (by grind : a ≤ 1 / b ∨ 1 / b < a) with q | q
  · exact q
  · have := (Rat.div_lt_iff hb).mp q; grind
theorem inv_mul {b : Rat} (hb : 0 < b) : 1 / b * b = 1 := Rat.div_mul_cancel (Rat.ne_of_gt hb)
/-- a float of few bits, not whole -/
theorem dyadic {p c a : Nat} {e : Int} {lo : Rat} (hv : lo = c * pw e) (hc : c < 2 ^ p) (h1 : 1 ≤ lo) (ha : (a : Rat) < lo) (hb : lo < (a : Rat) + 1) : pw (-(p : Int)) ≤ lo - a ∧ a < 2 ^ p := by
  have he : e < 0 := by
    rcases (by omega : e < 0 ∨ 0 ≤ e) with q | q
    · exact q
    · exfalso
      have : lo = ((c * 2 ^ e.toNat : Nat) : Rat) := by
        rw [hv, lift (q := 0) q, pw_zero, show (e - 0).toNat = e.toNat by omega]; grind
      rw [this] at ha hb
      have a1 : a < c * 2 ^ e.toNat := by exact_mod_cast ha
      have a2 : c * 2 ^ e.toNat < a + 1 := by exact_mod_cast hb
      omega
  have hc' : (c : Rat) * pw e < pw (p + e) := by
    rw [pw_add, pw_nat]
    exact mlt (by exact_mod_cast hc) (pw_pos e)
  have hpe : -(p : Int) ≤ e := by
    rcases (by omega : -(p : Int) ≤ e ∨ (p : Int) + e ≤ 0) with q | q
    · exact q
    · exfalso
      have := pw_mono q
      rw [pw_zero] at this
      grind
  constructor
  · have e1 : (a : Rat) = ((a * 2 ^ (-e).toNat : Nat) : Rat) * pw e := by
      have : (a : Rat) = (a : Rat) * pw 0 := by rw [pw_zero]; grind
      rw [this, lift (q := e) (by omega), show (0 - e).toNat = (-e).toNat by omega]
    have a1 : a * 2 ^ (-e).toNat < c := by
      rw [hv, e1, clt] at ha; exact ha
    have : ((a * 2 ^ (-e).toNat + 1 : Nat) : Rat) * pw e ≤ c * pw e := cle.mpr a1
    have e2 : ((a * 2 ^ (-e).toNat + 1 : Nat) : Rat) * pw e = a + pw e := by rw [e1]; push_cast; grind
    have := pw_mono hpe
    rw [hv]; grind
  · have h2 : (c : Rat) * pw e < pw (p : Int) := by
      have := pw_mono (show (p : Int) + e ≤ p by omega); grind
    rw [pw_nat] at h2
    have : (a : Rat) < ((2 ^ p : Nat) : Rat) := by grind
    exact_mod_cast this
/-- the bounds of a turn -/
theorem turn_bounds {p a : Nat} {lo hi rl rh lo' hi' : Rat} (hp : 2 ≤ p) (hg : pw (-(p : Int)) ≤ lo - a) (hlh : lo ≤ hi) (hb : hi < (a : Rat) + 1) (hlb : lo < (a : Rat) + 1)
    (R1 : RDn p (lo - a) rl) (R2 : RUp p (hi - a) rh) (R3 : RDn p (1 / rh) lo') (R4 : RUp p (1 / rl) hi') (hrl : 0 < rl) (hrh : 0 < rh) : 1 ≤ lo' ∧ 1 ≤ hi' ∧ lo' ≤ pw p ∧ hi' ≤ pw p := by
  have pp := pw_pos p
  have pm := pw_mul_neg p
  have a1 : rh ≤ 1 := by have := R2.le_pw (k := 0) (by omega) (by rw [pw_zero]; grind); rwa [pw_zero] at this
  have a2 : pw (-(p : Int)) ≤ rl := R1.ge_pw (by omega) hg
  have a3 : pw (-(p : Int)) ≤ rh := by have := R2.le; grind
  have a4 : rl ≤ 1 := by have := R1.le; grind
  have big : ∀ {r : Rat}, 0 < r → pw (-(p : Int)) ≤ r → 1 / r ≤ pw p := fun {r} hr h => inv_le hr (by
    have := Rat.mul_le_mul_of_nonneg_left h (Rat.le_of_lt pp); grind)
  have small : ∀ {r : Rat}, 0 < r → r ≤ 1 → 1 ≤ 1 / r := fun {r} hr h => le_inv hr (by grind)
  refine ⟨?_, ?_, ?_, ?_⟩
  · have := R3.ge_pw (k := 0) (by omega) (by rw [pw_zero]; exact small hrh a1); rwa [pw_zero] at this
  · have := R4.le; have := small hrl a4; grind
  · have := R3.le; have := big hrh a3; grind
  · exact R4.le_pw (by omega) (big hrl a2)
end Mine

end
section
open PySem
namespace Mine
/-- the true value is not near a whole number -/
theorem sure_lo {n m d a m' d' : Nat} {lo hi : Rat} (C : CutR lo hi m d n) (hd : 1 ≤ d) (e : a * d = m + m') (h : n = m' * m' + d * d') (hm : m' ≤ 31) (hd2 : d ≤ 62) (hd' : 1 ≤ d') : (a : Rat) + 1 / 64 ≤ hi := by
  have hdr : (0 : Rat) < d := Rat.natCast_pos.mpr hd
  have e' : (a : Rat) * d = m + m' := by exact_mod_cast e
  have key : ((m' : Rat) + d / 64) * (m' + d / 64) ≤ n := by
    have h1 : (n : Rat) = m' * m' + d * d' := by exact_mod_cast h
    have h2 : (1 : Rat) ≤ d' := by exact_mod_cast hd'
    have h3 : (m' : Rat) ≤ 31 := by exact_mod_cast hm
    have h4 : (d : Rat) ≤ 62 := by exact_mod_cast hd2
    have a1 := mle h2 (Rat.le_of_lt hdr)
    have a2 := mle h3 (Rat.le_of_lt hdr)
    have a3 := mle h4 (Rat.le_of_lt hdr)
    grind
  have l : (m' : Rat) + d / 64 ≤ hi * d - m := sq_le C.2.1 (by have := C.2.2; grind)
  refine (mul_le_cancel hdr).mp ?_
  grind
theorem sure_hi {n whole m d a m' d' : Nat} {lo hi : Rat} (C : CutR lo hi m d n) (w2 : n < (whole + 1) * (whole + 1)) (hd : 1 ≤ d) (ha : a = (whole + m) / d) (e : a * d = m + m') (h : n = m' * m' + d * d') (hm : m' ≤ 31) (hd2 : d ≤ 62) : lo ≤ (a : Rat) + 1 - 1 / 200 := by
  have hdr : (0 : Rat) < d := Rat.natCast_pos.mpr hd
  have e' : (a : Rat) * d = m + m' := by exact_mod_cast e
  have hM : whole + 1 ≤ m' + d := by
    have h1 := Nat.div_add_mod (whole + m) d
    have h2 := Nat.mod_lt (whole + m) hd
    rw [← ha, Nat.mul_comm] at h1
    omega
  have hMM := Nat.mul_le_mul hM hM
  have hbr : d * d' + d ≤ d * (2 * m' + d) := by
    have : d * d' < d * (2 * m' + d) := by
      have e1 : (m' + d) * (m' + d) = m' * m' + d * (2 * m' + d) := by grind
      omega
    have := Nat.lt_of_mul_lt_mul_left this
    have := Nat.mul_le_mul_left d (show d' + 1 ≤ 2 * m' + d from this)
    rw [Nat.mul_add, Nat.mul_one] at this
    exact this
  have hm0 : (0 : Rat) ≤ m' := Rat.natCast_nonneg
  have key : (n : Rat) ≤ ((m' : Rat) + d - d / 200) * (m' + d - d / 200) := by
    have h1 : (n : Rat) = m' * m' + d * d' := by exact_mod_cast h
    have h3 : (m' : Rat) ≤ 31 := by exact_mod_cast hm
    have h4 : (d : Rat) ≤ 62 := by exact_mod_cast hd2
    have h5 : (d : Rat) * d' + d ≤ d * (2 * m' + d) := by exact_mod_cast hbr
    have a2 := mle h3 (Rat.le_of_lt hdr)
    have a3 := mle h4 (Rat.le_of_lt hdr)
    grind
  have l : lo * d - m ≤ (m' : Rat) + d - d / 200 := by
    rcases C.1 with q | q
    · grind
    · exact sq_le (by grind) (by grind)
  refine (mul_le_cancel hdr).mp ?_
  grind
/-- how the width grows in a turn -/
theorem width_turn {p : Nat} {Lo Hi rl rh lo' hi' B : Rat} (hp : 21 ≤ p) (hL : 3 / 256 ≤ Lo) (hH : 1 / 64 ≤ Hi) (hH1 : Hi ≤ 1) (hLH : Lo ≤ Hi) (hW : Hi - Lo ≤ B) (hB : 128 * pw (-(p : Int)) ≤ B)
    (R1 : RDn p Lo rl) (R2 : RUp p Hi rh) (R3 : RDn p (1 / rh) lo') (R4 : RUp p (1 / rl) hi') (hrl : 0 < rl) (hrh : 0 < rh) (hlo : 0 < lo') (hhi : 0 < hi') : hi' - lo' ≤ 8192 * B := by
  have pe : pw (-(p : Int)) * pw ((p : Int) - 1) = 1 / 2 := by
    rw [← pw_add, show -(p : Int) + ((p : Int) - 1) = -1 by omega]
    have := pw_mul_neg 1
    rw [pw_one] at this; grind
  have hq := pw_pos ((p : Int) - 1)
  have he0 := pw_pos (-(p : Int))
  have he1 : 1048576 * pw (-(p : Int)) ≤ 1 / 2 := by
    have : pw (-(p : Int)) ≤ pw (-21) := pw_mono (by omega)
    have e : pw (-21) * 2097152 = 1 := by
      have := pw_mul_neg 21
      have e2 : pw 21 = 2097152 := by have := pw_nat 21; rw [show ((21 : Nat) : Int) = 21 from rfl] at this; rw [this]; rfl
      rw [e2] at this; exact this
    grind
  generalize hε : 2 * pw (-(p : Int)) = ε at *
  have eq1 : ε * pw ((p : Int) - 1) = 1 := by rw [← hε]; grind
  -- the four errors
  have err : ∀ {x y : Rat}, x * pw ((p : Int) - 1) ≤ y → x ≤ y * ε := fun {x y} h => by
    have := mle h (show 0 ≤ ε by grind)
    have e2 : x * pw ((p : Int) - 1) * ε = x := by rw [Rat.mul_assoc, Rat.mul_comm (pw _) ε, eq1]; grind
    grind
  have b1 := err (R1.err (by grind))
  have b2 := err (R2.err (by grind) (by omega))
  have i1 := inv_mul hrl
  have i2 := inv_mul hrh
  have b3 := err (R3.err (by have := inv_mul hrh; rcases (by grind : 0 < 1 / rh ∨ 1 / rh ≤ 0) with q | q; exact q; exfalso; have := mle q (Rat.le_of_lt hrh); grind))
  have b4 := err (R4.err (by have := inv_mul hrl; rcases (by grind : 0 < 1 / rl ∨ 1 / rl ≤ 0) with q | q; exact q; exfalso; have := mle q (Rat.le_of_lt hrl); grind) (by omega))
  have c1 : hi' * rl ≤ 1 + ε := by
    have := mle (show hi' ≤ (1 / rl) * (1 + ε) by grind) (Rat.le_of_lt hrl)
    have e : (1 / rl) * (1 + ε) * rl = (1 / rl * rl) * (1 + ε) := by grind
    rw [e, i1] at this; grind
  have c2 : 1 - ε ≤ lo' * rh := by
    have := mle (show (1 / rh) * (1 - ε) ≤ lo' by grind) (Rat.le_of_lt hrh)
    have e : (1 / rh) * (1 - ε) * rh = (1 / rh * rh) * (1 - ε) := by grind
    rw [e, i2] at this; grind
  have c3 : hi' * (Lo * (1 - ε)) ≤ 1 + ε := by
    have := Rat.mul_le_mul_of_nonneg_left (show Lo * (1 - ε) ≤ rl by grind) (Rat.le_of_lt hhi); grind
  have c4 : 1 - ε ≤ lo' * (Hi * (1 + ε)) := by
    have := Rat.mul_le_mul_of_nonneg_left (show rh ≤ Hi * (1 + ε) by grind) (Rat.le_of_lt hlo); grind
  have hε0 : 0 < ε := by grind
  have hε1 : 1048576 * ε ≤ 1 := by grind
  have d1 : 0 ≤ Hi * (1 + ε) := Rat.mul_nonneg (by grind) (by grind)
  have d2 : 0 ≤ Lo * (1 - ε) := Rat.mul_nonneg (by grind) (by grind)
  have e1 := mle c3 d1
  have e2 := mle c4 d2
  generalize hK : (Lo * (1 - ε)) * (Hi * (1 + ε)) = Kk at *
  have f1 : (hi' - lo') * Kk ≤ (1 + ε) * (Hi * (1 + ε)) - (1 - ε) * (Lo * (1 - ε)) := by
    rw [← hK]; grind
  have εε : 0 ≤ ε * ε ∧ ε * ε ≤ ε := ⟨Rat.mul_nonneg (by grind) (by grind), by have := mle (show ε ≤ 1 by grind) (show 0 ≤ ε by grind); grind⟩
  have f2 : (1 + ε) * (Hi * (1 + ε)) - (1 - ε) * (Lo * (1 - ε)) ≤ (Hi - Lo) * (1 + ε * ε) + 4 * ε := by
    have := mle hH1 (show 0 ≤ 2 * ε by grind)
    have := mle (show Lo ≤ 1 by grind) (show 0 ≤ 2 * ε by grind)
    grind
  have hB0 : 0 < B := by grind
  have f3 : (Hi - Lo) * (1 + ε * ε) ≤ B * (1 + 1 / 1000) := by
    have a1 := mle hW (show 0 ≤ 1 + ε * ε by grind)
    have a2 := Rat.mul_le_mul_of_nonneg_left (show 1 + ε * ε ≤ 1 + 1 / 1000 by grind) (Rat.le_of_lt hB0)
    grind
  have f4 : 3 / 16384 * (99 / 100) ≤ Kk := by
    have a1 : 3 / 256 * (1 / 64) ≤ Lo * Hi := by
      have x1 := mle hL (show (0 : Rat) ≤ 1 / 64 by decide +kernel)
      have x2 := Rat.mul_le_mul_of_nonneg_left hH (show 0 ≤ Lo by grind)
      grind
    have e : Kk = (Lo * Hi) * (1 - ε * ε) := by rw [← hK]; grind
    have a2 := mle a1 (show 0 ≤ 1 - ε * ε by grind)
    rw [e]
    grind
  rcases (by grind : hi' - lo' ≤ 8192 * B ∨ 8192 * B < hi' - lo') with q | q
  · exact q
  · exfalso
    have a1 := mle (Rat.le_of_lt q) (show 0 ≤ Kk by grind)
    have a2 := Rat.mul_le_mul_of_nonneg_left f4 (show 0 ≤ 8192 * B by grind)
    grind
theorem isqrt_ex : ∀ N : Nat, ∃ c, c * c ≤ N ∧ N < (c + 1) * (c + 1)
  | 0 => ⟨0, by omega, by omega⟩
  | N + 1 => by
    obtain ⟨c, h1, h2⟩ := isqrt_ex N
    rcases Nat.lt_or_ge (N + 1) ((c + 1) * (c + 1)) with q | q
    · exact ⟨c, by omega, q⟩
    · refine ⟨c + 1, q, ?_⟩
      have : (c + 1) * (c + 1) < (c + 1 + 1) * (c + 1 + 1) := Nat.mul_lt_mul'' (by omega) (by omega)
      omega
/-- the width of the first interval -/
theorem width_first {p n : Nat} {lo hi : Rat} (hp : 6 ≤ p) (hn : n ≤ 1000) (h1 : SDn p n lo) (h2 : SUp p n hi) : hi - lo ≤ 128 * pw (-(p : Int)) := by
  obtain ⟨c, c1, c2⟩ := isqrt_ex (n * 2 ^ (2 * (p - 5)))
  have ev : ∀ x : Nat, ((x : Rat) * pw (5 - p)) * ((x : Rat) * pw (5 - p)) = ((x * x : Nat) : Rat) * pw (2 * (5 - p)) := fun x => sqpw x _
  have en : (n : Rat) = ((n * 2 ^ (2 * (p - 5)) : Nat) : Rat) * pw (2 * (5 - p)) := by
    rw [← liftn, show 2 * (5 - (p : Int)) + ((2 * (p - 5) : Nat) : Int) = 0 by omega, pw_zero]; grind
  have hp32 : 2 ^ p = 2 ^ (p - 5) * 32 := by rw [show (32 : Nat) = 2 ^ 5 from rfl, ← Nat.pow_add]; congr 1; omega
  have hc : c < 2 ^ p := by
    rcases Nat.lt_or_ge c (2 ^ p) with q | q
    · exact q
    · exfalso
      have a1 := Nat.mul_le_mul q q
      have a2 : 2 ^ p * 2 ^ p = 2 ^ (2 * (p - 5)) * 1024 := by rw [hp32, show 2 * (p - 5) = (p - 5) + (p - 5) by omega, Nat.pow_add]; grind
      have a3 := Nat.mul_le_mul_right (2 ^ (2 * (p - 5))) hn
      have a4 := Nat.two_pow_pos (2 * (p - 5))
      omega
  have lo' : (c : Rat) * pw (5 - p) ≤ lo := h1.top c _ hc (by rw [ev, en]; exact cle.mpr c1)
  have hi' : hi ≤ ((c + 1 : Nat) : Rat) * pw (5 - p) := by
    rcases Nat.lt_or_ge (c + 1) (2 ^ p) with q | q
    · exact h2.top (c + 1) _ q (by rw [ev, en]; exact cle.mpr (Nat.le_of_lt c2))
    · have e : c + 1 = 1 * 2 ^ p := by omega
      have e2 : ((c + 1 : Nat) : Rat) * pw (5 - p) = ((1 : Nat) : Rat) * pw (5 - p + (p : Int)) := by rw [liftn, e]
      rw [e2]
      refine h2.top 1 _ (one_lt_pow (by omega)) ?_
      rw [← e2, ev, en]; exact cle.mpr (Nat.le_of_lt c2)
  have e3 : ((c + 1 : Nat) : Rat) * pw (5 - p) = (c : Rat) * pw (5 - p) + pw (5 - p) := by push_cast; grind
  have e4 : pw (5 - p) = 32 * pw (-(p : Int)) := by
    have : pw (5 - (p : Int)) = pw 5 * pw (-(p : Int)) := by rw [← pw_add]; congr 1
    rw [this]; have : pw 5 = 32 := by have := pw_nat 5; rw [show ((5 : Nat) : Int) = 5 from rfl] at this; rw [this]; rfl
    rw [this]
  have := pw_pos (-(p : Int))
  grind
end Mine

end
section
open PySem
namespace Mine
def sgn (k : Nat) : Int := if k % 2 = 0 then 1 else -1
theorem sgn_succ (k : Nat) : sgn (k + 1) = -sgn k := by
  unfold sgn
  rcases (by omega : k % 2 = 0 ∨ k % 2 = 1) with h | h
  · rw [if_neg (by omega), if_pos h]
  · rw [if_pos (by omega), if_neg (by omega)]; rfl
def NonSq (n : Nat) : Prop := ∀ w, w * w ≠ n
/-- the reader's state at the head of its loop -/
structure RS (n whole p : Nat) (sure : Int) (k m d num en den ed : Nat) (lo hi : Rat) : Prop where
  fs : FS n whole m d
  cut : CutR lo hi m d n
  nm : Nm n m d num den en ed (sgn k)
  l1 : 1 ≤ lo
  l2 : lo ≤ pw 200
  h1 : 1 ≤ hi
  h2 : hi ≤ pw 200
  b1 : num ≤ 2 ^ (52 * k)
  b2 : en ≤ 2 ^ (52 * k)
  b3 : den ≤ 2 ^ (52 * k)
  b4 : ed ≤ 2 ^ (52 * k)
  pos : 1 ≤ num ∧ 1 ≤ den + ed
  nonsq : k = 0 ∧ m = 0 ∧ d = 1 ∨ NonSq n
  sq : k = 0 → 0 < sure → ∀ w : Nat, w * w = n → lo = w ∧ hi = w
  wid : n ≤ 1000 → NonSq n → (k : Int) < sure → hi - lo ≤ pw (7 + 13 * k - p)
/-- the plain parameters of a reading -/
structure Par (n whole p : Nat) (sure : Int) : Prop where
  n1 : 1 ≤ n
  n2 : n < 2 ^ 100
  p4 : 4 ≤ p
  p119 : p ≤ 119
  w1 : whole * whole ≤ n
  w2 : n < (whole + 1) * (whole + 1)
  s7 : sure ≤ 7
  sp : 0 < sure → n ≤ 1000 ∧ 12 * sure + 9 ≤ p
theorem Par.whole1 {n whole p : Nat} {sure : Int} (P : Par n whole p sure) : 1 ≤ whole := by
  rcases Nat.eq_zero_or_pos whole with h | h
  · have := P.w2; have := P.n1; subst h; omega
  · exact h
theorem Par.wholeB {n whole p : Nat} {sure : Int} (P : Par n whole p sure) : whole < 2 ^ 50 := by
  rcases Nat.lt_or_ge whole (2 ^ 50) with h | h
  · exact h
  · exfalso
    have a := Nat.mul_le_mul h h
    have b := P.w1; have c := P.n2
    rw [← Nat.pow_add] at a
    omega
theorem Par.whole31 {n whole p : Nat} {sure : Int} (P : Par n whole p sure) (h : n ≤ 1000) : whole ≤ 31 := by
  rcases Nat.lt_or_ge 31 whole with q | q
  · have a := Nat.mul_le_mul (show 32 ≤ whole from q) (show 32 ≤ whole from q); have := P.w1; omega
  · exact q
theorem nn_cut {lo hi : Rat} {n : Nat} (h1 : lo * lo ≤ n) (h2 : (n : Rat) ≤ hi * hi) (h3 : 0 ≤ hi) : CutR lo hi (0 : Nat) (1 : Nat) n := by
  refine ⟨.inr ?_, ?_, ?_⟩ <;> (push_cast; grind)
theorem RS.start {n whole p : Nat} {sure : Int} {lo hi : Rat} (P : Par n whole p sure) (S1 : SDn p n lo) (S2 : SUp p n hi) (hlo : 0 < lo) (hhi : 0 < hi) : RS n whole p sure 0 0 1 1 0 0 1 lo hi where
  fs := FS.start P.w1 P.w2 P.whole1
  cut := nn_cut S1.le S2.le (Rat.le_of_lt hhi)
  nm := Nm.start n
  l1 := by
    have n1 : (1 : Rat) ≤ n := by exact_mod_cast P.n1
    have := S1.ge_pw (k := 0) (by have := P.p4; omega) (by rw [pw_zero]; grind)
    rwa [pw_zero] at this
  l2 := by
    have h : (n : Rat) ≤ pw 200 * pw 200 := by
      have a : (n : Rat) ≤ ((2 ^ 100 : Nat) : Rat) := by exact_mod_cast Nat.le_of_lt P.n2
      rw [← pw_nat] at a
      have b := pw_mono (show ((100 : Nat) : Int) ≤ 200 + 200 by decide)
      rw [pw_add] at b; grind
    exact sq_le (Rat.le_of_lt (pw_pos _)) (by have := S1.le; grind)
  h1 := by
    have : (1 : Rat) ≤ n := by exact_mod_cast P.n1
    have := S2.le
    exact sq_le (Rat.le_of_lt hhi) (by grind)
  h2 := by
    have h : (n : Rat) ≤ pw 200 * pw 200 := by
      have a : (n : Rat) ≤ ((2 ^ 100 : Nat) : Rat) := by exact_mod_cast Nat.le_of_lt P.n2
      rw [← pw_nat] at a
      have b := pw_mono (show ((100 : Nat) : Int) ≤ 200 + 200 by decide)
      rw [pw_add] at b; grind
    exact S2.le_pw (by have := P.p4; omega) h
  b1 := by decide
  b2 := by decide
  b3 := by decide
  b4 := by decide
  pos := by decide
  nonsq := .inl ⟨rfl, rfl, rfl⟩
  sq := fun _ h w hw => by
    have hp := (P.sp h)
    have w31 : w ≤ 31 := by
      rcases Nat.lt_or_ge 31 w with q | q
      · have a := Nat.mul_le_mul (show 32 ≤ w from q) (show 32 ≤ w from q); omega
      · exact q
    have hw2 : w < 2 ^ p := by
      have := Nat.pow_le_pow_right (n := 2) (by decide) (show 5 ≤ p by have := P.p4; omega)
      omega
    have e : ((w : Rat) * pw 0) * ((w : Rat) * pw 0) = n := by
      have : (n : Rat) = w * w := by exact_mod_cast hw.symm
      rw [pw_zero, this]; grind
    have a1 := S1.top w 0 hw2 (by rw [e]; exact Rat.le_refl)
    have a2 := S2.top w 0 hw2 (by rw [e]; exact Rat.le_refl)
    rw [pw_zero] at a1 a2
    have c := (nn_cut S1.le S2.le (Rat.le_of_lt hhi)).le (by decide)
    constructor <;> grind
  wid := fun h1 _ h3 => by
    have hp := (P.sp h3).2
    have := width_first (p := p) (by omega) h1 S1 S2
    have e : pw (7 + 13 * ((0 : Nat) : Int) - p) = 128 * pw (-(p : Int)) := by
      rw [show 7 + 13 * ((0 : Nat) : Int) - (p : Int) = 7 + -(p : Int) by omega, pw_add]
      have : pw 7 = 128 := by have := pw_nat 7; rw [show ((7 : Nat) : Int) = 7 from rfl] at this; rw [this]; rfl
      rw [this]
    rw [e]; exact this
theorem pow52 {a x y k : Nat} (ha : a < 2 ^ 51) (hx : x ≤ 2 ^ (52 * k)) (hy : y ≤ 2 ^ (52 * k)) : a * x + y ≤ 2 ^ (52 * (k + 1)) := by
  have e : 2 ^ (52 * (k + 1)) = 2 ^ 52 * 2 ^ (52 * k) := by rw [← Nat.pow_add]; congr 1; omega
  have a1 := Nat.mul_le_mul (Nat.le_of_lt ha) hx
  have a2 := Nat.two_pow_pos (52 * k)
  rw [e]
  generalize 2 ^ (52 * k) = Z at *
  omega
section
variable {n whole p : Nat} {sure : Int} {k m d num en den ed : Nat} {lo hi : Rat}
theorem RS.aB (R : RS n whole p sure k m d num en den ed lo hi) (P : Par n whole p sure) : (whole + m) / d < 2 ^ 51 := by
  have h1 : (whole + m) / d ≤ whole + m := Nat.div_le_self _ _
  have := R.fs.mw
  have := P.wholeB
  omega
/-- where both ends surely tell one figure -/
theorem RS.surely (R : RS n whole p sure k m d num en den ed lo hi) (P : Par n whole p sure) (hk : (k : Int) < sure) (hn : NonSq n) :
    (((whole + m) / d : Nat) : Rat) + 3 / 256 ≤ lo ∧ hi < (((whole + m) / d : Nat) : Rat) + 1 ∧ hi - lo ≤ pw (7 + 13 * k - p) ∧ (((whole + m) / d : Nat) : Rat) + 1 / 64 ≤ hi := by
  have hp := P.sp (by omega)
  obtain ⟨m', d', e, _, _, hm', h, _, _⟩ := R.fs.step
  have w31 := P.whole31 hp.1
  have hW := R.wid hp.1 hn hk
  have hd' : 1 ≤ d' := by
    rcases Nat.eq_zero_or_pos d' with z | z
    · exfalso; rw [z] at h; exact hn m' (by omega)
    · exact z
  have hmd : d ≤ 62 := by have := R.fs.dw; have := R.fs.mw; omega
  have a1 := sure_lo R.cut R.fs.d1 e h (by omega) hmd hd'
  have a2 := sure_hi R.cut R.fs.w2 R.fs.d1 rfl e h (by omega) hmd
  have s7 := P.s7
  have a3 : pw (7 + 13 * k - p) ≤ 1 / 256 := by
    have : pw (7 + 13 * (k : Int) - p) ≤ pw (-8) := pw_mono (by omega)
    have e : pw (-8) * 256 = 1 := by
      have := pw_mul_neg 8
      have e2 : pw 8 = 256 := by have := pw_nat 8; rw [show ((8 : Nat) : Int) = 8 from rfl] at this; rw [this]; rfl
      rw [e2] at this; exact this
    grind
  exact ⟨by grind, by grind, hW, a1⟩
/-- one turn -/
theorem RS.turn (R : RS n whole p sure k m d num en den ed lo hi) (P : Par n whole p sure) {a : Nat} (ha : a = (whole + m) / d) {rl rh lo' hi' : Rat} {c : Nat} {e : Int}
    (hv : lo = c * pw e) (hc : c < 2 ^ p) (h1 : (a : Rat) < lo) (hb : lo < (a : Rat) + 1) (hb2 : hi < (a : Rat) + 1)
    (R1 : RDn p (lo - a) rl) (R2 : RUp p (hi - a) rh) (R3 : RDn p (1 / rh) lo') (R4 : RUp p (1 / rl) hi') (hrl : 0 < rl) (hrh : 0 < rh) (hlo : 0 < lo') (hhi : 0 < hi') :
    ∃ m' d', a * d = m + m' ∧ n = m' * m' + d * d' ∧ 1 ≤ d' ∧ a < 2 ^ p ∧ 1 ≤ a ∧ 1 ≤ d ∧ RS n whole p sure (k + 1) m' d' (a * num + en) num (a * den + ed) den lo' hi' := by
  subst ha
  have aB := R.aB P
  obtain ⟨m', d', e1, a1, m1, hmw, h, hdw, F'⟩ := R.fs.step
  generalize hA : (whole + m) / d = a at *
  have hd := R.fs.d1
  have hdr : (0 : Rat) < d := Rat.natCast_pos.mpr hd
  have e1r : (m' : Rat) = a * d - m := by
    have : (a : Rat) * d = m + m' := by exact_mod_cast e1
    grind
  have hr : (d : Rat) * d' = n - m' * m' := by
    have : (n : Rat) = m' * m' + d * d' := by exact_mod_cast h
    grind
  have nonsq : NonSq n := by
    rcases R.nonsq with ⟨rfl, rfl, rfl⟩ | q
    · intro w hw
      exfalso
      have : w = whole := by
        have x1 := R.fs.w1; have x2 := R.fs.w2
        have y1 : w ≤ whole := sq_mono (show w * w ≤ n by omega) x2
        rcases Nat.lt_or_ge w whole with q | q
        · have := Nat.mul_lt_mul'' q q; omega
        · omega
      subst this
      have ew : a = w := by rw [← hA]; simp
      subst ew
      have c1 := R.cut.1
      have l2 : lo * lo ≤ (a : Rat) * a := by
        have hn : (n : Rat) = a * a := by exact_mod_cast hw.symm
        have := R.l1
        push_cast at c1
        rcases c1 with z | z <;> grind
      have := sq_le (Rat.natCast_nonneg (a := a)) l2
      grind
    · exact q
  have hd1 : 1 ≤ d' := by
    rcases Nat.eq_zero_or_pos d' with z | z
    · exfalso; rw [z] at h; exact nonsq m' (by omega)
    · exact z
  have hd1r : (0 : Rat) < d' := Rat.natCast_pos.mpr hd1
  have hlh : lo ≤ hi := R.cut.le hdr
  obtain ⟨g1, g2⟩ := dyadic hv hc R.l1 h1 hb
  have p4 := P.p4
  have p119 := P.p119
  obtain ⟨t1, t2, t3, t4⟩ := turn_bounds (p := p) (by omega) g1 hlh hb2 hb R1 R2 R3 R4 hrl hrh
  have cut' : CutR lo' hi' m' d' n := by
    refine cut_turn R.cut hdr e1r (Rat.natCast_nonneg) hr hd1r hrl R1.le R2.le ?_ ?_ hlo hhi (by grind)
    · have := mle R3.le (Rat.le_of_lt hrh); rw [inv_mul hrh] at this; exact this
    · have := mle R4.le (Rat.le_of_lt hrl); rw [inv_mul hrl] at this; exact this
  have pw200 : pw (p : Int) ≤ pw 200 := pw_mono (by omega)
  refine ⟨m', d', e1, h, hd1, g2, a1, hd, ⟨F' hd1, cut', ?_, t1, by grind, t2, by grind, pow52 aB R.b1 R.b2, ?_, pow52 aB R.b3 R.b4, ?_, ?_, .inr nonsq, fun h => by omega, ?_⟩⟩
  · rw [sgn_succ]
    have := R.nm.step (a := a) (m' := m') (d' := d') (by omega) (by have := congrArg (fun x : Nat => (x : Int)) e1; push_cast at this; omega) (by exact_mod_cast h)
    push_cast; exact this
  · exact Nat.le_trans R.b1 (Nat.pow_le_pow_right (by decide) (by omega))
  · exact Nat.le_trans R.b3 (Nat.pow_le_pow_right (by decide) (by omega))
  · have := R.pos
    have x1 := Nat.mul_le_mul a1 this.1
    have x2 := Nat.mul_le_mul_right den a1
    constructor <;> omega
  · intro hn _ hk
    have S := R.surely P (by omega) nonsq
    rw [hA] at S
    have hp := (P.sp (by omega)).2
    have B0 : 128 * pw (-(p : Int)) ≤ pw (7 + 13 * k - p) := by
      have e7 : pw (7 + -(p : Int)) = 128 * pw (-(p : Int)) := by
        rw [pw_add]; have : pw 7 = 128 := by have := pw_nat 7; rw [show ((7 : Nat) : Int) = 7 from rfl] at this; rw [this]; rfl
        rw [this]
      rw [← e7]; exact pw_mono (by omega)
    have := width_turn (p := p) (B := pw (7 + 13 * k - p)) (by omega) (show 3 / 256 ≤ lo - a by grind) (show 1 / 64 ≤ hi - a by grind) (by grind) (by grind) (by grind) B0 R1 R2 R3 R4 hrl hrh hlo hhi
    have e8 : pw (7 + 13 * ((k + 1 : Nat) : Int) - p) = 8192 * pw (7 + 13 * (k : Int) - p) := by
      rw [show 7 + 13 * ((k + 1 : Nat) : Int) - (p : Int) = 13 + (7 + 13 * (k : Int) - p) by push_cast; omega, pw_add]
      have : pw 13 = 8192 := by have := pw_nat 13; rw [show ((13 : Nat) : Int) = 13 from rfl] at this; rw [this]; rfl
      rw [this]
    rw [e8]; exact this
theorem floor_uniq {x : Rat} {a b : Nat} (h1 : (a : Rat) ≤ x) (h2 : x < (a : Rat) + 1) (h3 : (b : Rat) ≤ x) (h4 : x < (b : Rat) + 1) : a = b := by
  have x1 : (a : Rat) < ((b + 1 : Nat) : Rat) := by push_cast; grind
  have x2 : (b : Rat) < ((a + 1 : Nat) : Rat) := by push_cast; grind
  have y1 : a < b + 1 := by exact_mod_cast x1
  have y2 : b < a + 1 := by exact_mod_cast x2
  omega

/-- how many figures must be told -/
def need (n whole : Nat) (sure : Int) : Int := if whole * whole = n then (if sure < 1 then sure else 1) else sure
theorem nonsq_of {n whole : Nat} (w1 : whole * whole ≤ n) (w2 : n < (whole + 1) * (whole + 1)) (h : whole * whole ≠ n) : NonSq n := fun w hw => by
  have y1 : w ≤ whole := sq_mono (show w * w ≤ n by omega) w2
  rcases Nat.lt_or_ge w whole with q | q
  · have := Nat.mul_lt_mul'' q q; omega
  · have : w = whole := by omega
    subst this; exact h hw
theorem RS.exit1 (R : RS n whole p sure k m d num en den ed lo hi) (P : Par n whole p sure) {zl zh : Nat} (h1 : (zl : Rat) ≤ lo) (h2 : lo < (zl : Rat) + 1) (h3 : (zh : Rat) ≤ hi) (h4 : hi < (zh : Rat) + 1) (hne : zl ≠ zh) : ¬ (k : Int) < need n whole sure := by
  unfold need
  split
  · rename_i hs
    rcases R.nonsq with ⟨rfl, rfl, rfl⟩ | q
    · by_cases h : 0 < sure
      · obtain ⟨e1, e2⟩ := R.sq rfl h whole hs
        exfalso
        rw [e1] at h1 h2; rw [e2] at h3 h4
        exact hne (floor_uniq h1 h2 h3 h4)
      · rw [if_pos (by omega)]; omega
    · exact absurd hs (q whole)
  · rename_i hs
    intro hk
    obtain ⟨a1, a2, _, a4⟩ := R.surely P hk (nonsq_of P.w1 P.w2 hs)
    have lh := R.cut.le (Rat.natCast_pos.mpr R.fs.d1)
    have z1 := floor_uniq (x := lo) (a := (whole + m) / d) (by grind) (by grind) h1 h2
    have z2 := floor_uniq (x := hi) (a := (whole + m) / d) (by grind) (by grind) h3 h4
    omega
theorem RS.exit2 (R : RS n whole p sure k m d num en den ed lo hi) (P : Par n whole p sure) (h : lo = (((whole + m) / d : Nat) : Rat)) : ¬ ((k + 1 : Nat) : Int) < need n whole sure := by
  unfold need
  split
  · split <;> (push_cast; omega)
  · rename_i hs
    by_cases hk : (k : Int) < sure
    · exfalso
      obtain ⟨a1, _⟩ := R.surely P hk (nonsq_of P.w1 P.w2 hs)
      grind
    · push_cast; omega
theorem exit3 (P : Par n whole p sure) : ¬ ((7 : Nat) : Int) < need n whole sure := by
  have := P.s7
  unfold need
  split
  · split <;> omega
  · omega
end
/-- the figures, the last one first -/
inductive Ch (n p : Nat) : List Nat → Nat → Nat → Prop
  | nil : Ch n p [] 0 1
  | cons {r : List Nat} {m d a m' d' : Nat} : Ch n p r m d → a * d = m + m' → n = m' * m' + d * d' → 1 ≤ d → 1 ≤ d' → 1 ≤ a → a < 2 ^ p → Ch n p (a :: r) m' d'
theorem fold_step {n p m d a m' d' : Nat} {lo hi lo' hi' ql qh : Rat} (hp : 2 ≤ p) (hp2 : p ≤ 200) (hn : 1 ≤ n) (C : CutR lo' hi' m' d' n) (e : a * d = m + m') (h : n = m' * m' + d * d') (hd : 1 ≤ d) (hd' : 1 ≤ d') (ha : 1 ≤ a) (ha2 : a < 2 ^ p)
    (l1 : 1 ≤ lo') (h1 : 1 ≤ hi') (R1 : RDn p (1 / hi') ql) (R2 : RUp p (1 / lo') qh) (R3 : RDn p (a + ql) lo) (R4 : RUp p (a + qh) hi) (hql : 0 < ql) (hqh : 0 < qh) :
    CutR lo hi m d n ∧ 1 ≤ lo ∧ lo ≤ pw 200 ∧ 1 ≤ hi ∧ hi ≤ pw 200 := by
  have hdr : (0 : Rat) < d := Rat.natCast_pos.mpr hd
  have hd1r : (0 : Rat) < d' := Rat.natCast_pos.mpr hd'
  have e1r : (m' : Rat) = a * d - m := by
    have : (a : Rat) * d = m + m' := by exact_mod_cast e
    grind
  have hr : (d : Rat) * d' = n - m' * m' := by
    have : (n : Rat) = m' * m' + d * d' := by exact_mod_cast h
    grind
  have har : (1 : Rat) ≤ a := by exact_mod_cast ha
  have i1 := inv_mul (show 0 < hi' by grind)
  have i2 := inv_mul (show 0 < lo' by grind)
  have q1 : ql ≤ 1 := by have := R1.le; have := inv_le (a := 1) (show 0 < hi' by grind) (by grind); grind
  have q2 : qh ≤ 1 := by
    have := R2.le_pw (k := 0) (by omega) (by rw [pw_zero]; exact inv_le (show 0 < lo' by grind) (by grind))
    rwa [pw_zero] at this
  have a2 : (a : Rat) + 1 ≤ pw p := by
    rw [pw_nat]
    have : ((a + 1 : Nat) : Rat) ≤ ((2 ^ p : Nat) : Rat) := by exact_mod_cast ha2
    push_cast at this ⊢; grind
  have pw200 : pw (p : Int) ≤ pw 200 := pw_mono (by omega)
  refine ⟨cut_fold C hdr e1r Rat.natCast_nonneg hr hd1r (by exact_mod_cast hn) (by grind) (by grind) ?_ ?_ R3.le R4.le hqh hql, ?_, ?_, ?_, ?_⟩
  · have := mle R1.le (show 0 ≤ hi' by grind); rw [i1] at this; exact this
  · have := mle R2.le (show 0 ≤ lo' by grind); rw [i2] at this; exact this
  · have := R3.ge_pw (k := 0) (by omega) (by rw [pw_zero]; grind); rwa [pw_zero] at this
  · have := R3.le; grind
  · have := R4.le; grind
  · have := R4.le_pw (k := p) (by omega) (by grind); grind
end Mine

end
section
open PySem PySem.W PyProof.Rows PySem.Calls
set_option maxRecDepth 100000
namespace Mine
noncomputable abbrev KK (w : World) : Frag := hd.heap_39 w.params
noncomputable abbrev PP : Program := PySem.Challenge.rw_bg5012_01.row.prog

def fbody (K : Frag) (a : Addr) : List Stmt := match K.lookup a with
  | some ⟨_, _, .func fd, _⟩ => (match fd.body with | .stmts b => b | _ => [])
  | _ => []
def fscope (K : Frag) (a : Addr) : Scope := match K.lookup a with
  | some ⟨_, _, .func fd, _⟩ => fd.scope
  | _ => default
def dflts (K : Frag) (a : Addr) : List Value := match K.lookup a with
  | some ⟨_, _, .func fd, _⟩ => (match fd.defaults with
    | .ref t => (match K.lookup t with
      | some ⟨_, _, .seq vs _, _⟩ => vs.toList
      | _ => [])
    | _ => [])
  | _ => []

theorem d_trailing (w : World) : DefIs (KK w) "trailing" 21 ["n"] [] (fbody (KK w) 21) (fscope (KK w) 21) 1 where
  at' := by kernel_rfl
  ok := ⟨_, _, _, _, _, _, _, _, _, _, _, _, _, rfl, rfl, [], fun _ _ => .nil, fun s vs X hl => by
    match vs, hl with
    | [a0], _ => exact BindsTo.of_eq (by kernel_rfl)⟩
  nod := by decide
  loc := rfl
  ncell := rfl
  co := rfl
  gen := rfl
  kind := rfl
theorem d_isqrt_small (w : World) : DefIs (KK w) "isqrt_small" 28 ["x"] [] (fbody (KK w) 28) (fscope (KK w) 28) 1 where
  at' := by kernel_rfl
  ok := ⟨_, _, _, _, _, _, _, _, _, _, _, _, _, rfl, rfl, [], fun _ _ => .nil, fun s vs X hl => by
    match vs, hl with
    | [a0], _ => exact BindsTo.of_eq (by kernel_rfl)⟩
  nod := by decide
  loc := rfl
  ncell := rfl
  co := rfl
  gen := rfl
  kind := rfl
theorem d_sqrtrem (w : World) : DefIs (KK w) "sqrtrem" 35 ["x"] [] (fbody (KK w) 35) (fscope (KK w) 35) 1 where
  at' := by kernel_rfl
  ok := ⟨_, _, _, _, _, _, _, _, _, _, _, _, _, rfl, rfl, [], fun _ _ => .nil, fun s vs X hl => by
    match vs, hl with
    | [a0], _ => exact BindsTo.of_eq (by kernel_rfl)⟩
  nod := by decide
  loc := rfl
  ncell := rfl
  co := rfl
  gen := rfl
  kind := rfl
theorem d_isqrt (w : World) : DefIs (KK w) "isqrt" 42 ["x"] [] (fbody (KK w) 42) (fscope (KK w) 42) 1 where
  at' := by kernel_rfl
  ok := ⟨_, _, _, _, _, _, _, _, _, _, _, _, _, rfl, rfl, [], fun _ _ => .nil, fun s vs X hl => by
    match vs, hl with
    | [a0], _ => exact BindsTo.of_eq (by kernel_rfl)⟩
  nod := by decide
  loc := rfl
  ncell := rfl
  co := rfl
  gen := rfl
  kind := rfl
theorem d_round_int (w : World) : DefIs (KK w) "round_int" 68 ["x", "n", "rnd"] [] (fbody (KK w) 68) (fscope (KK w) 68) 3 where
  at' := by kernel_rfl
  ok := ⟨_, _, _, _, _, _, _, _, _, _, _, _, _, rfl, rfl, [], fun _ _ => .nil, fun s vs X hl => by
    match vs, hl with
    | [a0, a1, a2], _ => exact BindsTo.of_eq (by kernel_rfl)⟩
  nod := by decide
  loc := rfl
  ncell := rfl
  co := rfl
  gen := rfl
  kind := rfl
theorem d_unormalize (w : World) : DefIs (KK w) "_normalize" 80 ["sign", "man", "exp", "bc", "prec", "rnd"] [] (fbody (KK w) 80) (fscope (KK w) 80) 6 where
  at' := by kernel_rfl
  ok := ⟨_, _, _, _, _, _, _, _, _, _, _, _, _, rfl, rfl, [], fun _ _ => .nil, fun s vs X hl => by
    match vs, hl with
    | [a0, a1, a2, a3, a4, a5], _ => exact BindsTo.of_eq (by kernel_rfl)⟩
  nod := by decide
  loc := rfl
  ncell := rfl
  co := rfl
  gen := rfl
  kind := rfl
theorem d_normalize (w : World) : DefIs (KK w) "normalize" 87 ["sign", "man", "exp", "bc", "prec", "rnd"] [] (fbody (KK w) 87) (fscope (KK w) 87) 6 where
  at' := by kernel_rfl
  ok := ⟨_, _, _, _, _, _, _, _, _, _, _, _, _, rfl, rfl, [], fun _ _ => .nil, fun s vs X hl => by
    match vs, hl with
    | [a0, a1, a2, a3, a4, a5], _ => exact BindsTo.of_eq (by kernel_rfl)⟩
  nod := by decide
  loc := rfl
  ncell := rfl
  co := rfl
  gen := rfl
  kind := rfl
theorem d_from_man_exp (w : World) : DefIs (KK w) "from_man_exp" 95 ["man", "exp", "prec", "rnd"] [] (fbody (KK w) 95) (fscope (KK w) 95) 4 where
  at' := by kernel_rfl
  ok := ⟨_, _, _, _, _, _, _, _, _, _, _, _, _, rfl, rfl, (dflts (KK w) 95).drop 2, fun _ _ => .nil, fun s vs X hl => by
    match vs, hl with
    | [a0, a1, a2, a3], _ => first | exact BindsTo.of_eq rfl | exact binds_K X rfl rfl rfl rfl (by kernel_rfl)⟩
  nod := by decide
  loc := rfl
  ncell := rfl
  co := rfl
  gen := rfl
  kind := rfl
theorem d_from_int (w : World) : DefIs (KK w) "from_int" 103 ["n", "prec", "rnd"] [.int 0, .str (Str.ofString "d")] (fbody (KK w) 103) (fscope (KK w) 103) 1 where
  at' := by kernel_rfl
  ok := ⟨_, _, _, _, _, _, _, _, _, _, _, _, _, rfl, rfl, (dflts (KK w) 103).drop 0, fun _ _ => .cons (.int _ _) (.cons (.str _ _) (.nil)), fun s vs X hl => by
    match vs, hl with
    | [a0], _ => exact binds_K X rfl rfl rfl rfl (by kernel_rfl)⟩
  nod := by decide
  loc := rfl
  ncell := rfl
  co := rfl
  gen := rfl
  kind := rfl
theorem d_to_int (w : World) : DefIs (KK w) "to_int" 111 ["s", "rnd"] [.str (Str.ofString "d")] (fbody (KK w) 111) (fscope (KK w) 111) 1 where
  at' := by kernel_rfl
  ok := ⟨_, _, _, _, _, _, _, _, _, _, _, _, _, rfl, rfl, (dflts (KK w) 111).drop 0, fun _ _ => .cons (.str _ _) (.nil), fun s vs X hl => by
    match vs, hl with
    | [a0], _ => exact binds_K X rfl rfl rfl rfl (by kernel_rfl)⟩
  nod := by decide
  loc := rfl
  ncell := rfl
  co := rfl
  gen := rfl
  kind := rfl
theorem d_mpf_round_int (w : World) : DefIs (KK w) "mpf_round_int" 118 ["s", "rnd"] [] (fbody (KK w) 118) (fscope (KK w) 118) 2 where
  at' := by kernel_rfl
  ok := ⟨_, _, _, _, _, _, _, _, _, _, _, _, _, rfl, rfl, [], fun _ _ => .nil, fun s vs X hl => by
    match vs, hl with
    | [a0, a1], _ => exact BindsTo.of_eq (by kernel_rfl)⟩
  nod := by decide
  loc := rfl
  ncell := rfl
  co := rfl
  gen := rfl
  kind := rfl
theorem d_mpf_floor (w : World) : DefIs (KK w) "mpf_floor" 126 ["s", "prec", "rnd"] [.int 0, .str (Str.ofString "d")] (fbody (KK w) 126) (fscope (KK w) 126) 1 where
  at' := by kernel_rfl
  ok := ⟨_, _, _, _, _, _, _, _, _, _, _, _, _, rfl, rfl, (dflts (KK w) 126).drop 0, fun _ _ => .cons (.int _ _) (.cons (.str _ _) (.nil)), fun s vs X hl => by
    match vs, hl with
    | [a0], _ => exact binds_K X rfl rfl rfl rfl (by kernel_rfl)⟩
  nod := by decide
  loc := rfl
  ncell := rfl
  co := rfl
  gen := rfl
  kind := rfl
theorem d_to_rational (w : World) : DefIs (KK w) "to_rational" 133 ["s"] [] (fbody (KK w) 133) (fscope (KK w) 133) 1 where
  at' := by kernel_rfl
  ok := ⟨_, _, _, _, _, _, _, _, _, _, _, _, _, rfl, rfl, [], fun _ _ => .nil, fun s vs X hl => by
    match vs, hl with
    | [a0], _ => exact BindsTo.of_eq (by kernel_rfl)⟩
  nod := by decide
  loc := rfl
  ncell := rfl
  co := rfl
  gen := rfl
  kind := rfl
theorem d_mpf_cmp (w : World) : DefIs (KK w) "mpf_cmp" 140 ["s", "t"] [] (fbody (KK w) 140) (fscope (KK w) 140) 2 where
  at' := by kernel_rfl
  ok := ⟨_, _, _, _, _, _, _, _, _, _, _, _, _, rfl, rfl, [], fun _ _ => .nil, fun s vs X hl => by
    match vs, hl with
    | [a0, a1], _ => exact BindsTo.of_eq (by kernel_rfl)⟩
  nod := by decide
  loc := rfl
  ncell := rfl
  co := rfl
  gen := rfl
  kind := rfl
theorem d_mpf_lt (w : World) : DefIs (KK w) "mpf_lt" 147 ["s", "t"] [] (fbody (KK w) 147) (fscope (KK w) 147) 2 where
  at' := by kernel_rfl
  ok := ⟨_, _, _, _, _, _, _, _, _, _, _, _, _, rfl, rfl, [], fun _ _ => .nil, fun s vs X hl => by
    match vs, hl with
    | [a0, a1], _ => exact BindsTo.of_eq (by kernel_rfl)⟩
  nod := by decide
  loc := rfl
  ncell := rfl
  co := rfl
  gen := rfl
  kind := rfl
theorem d_mpf_le (w : World) : DefIs (KK w) "mpf_le" 154 ["s", "t"] [] (fbody (KK w) 154) (fscope (KK w) 154) 2 where
  at' := by kernel_rfl
  ok := ⟨_, _, _, _, _, _, _, _, _, _, _, _, _, rfl, rfl, [], fun _ _ => .nil, fun s vs X hl => by
    match vs, hl with
    | [a0, a1], _ => exact BindsTo.of_eq (by kernel_rfl)⟩
  nod := by decide
  loc := rfl
  ncell := rfl
  co := rfl
  gen := rfl
  kind := rfl
theorem d_mpf_ge (w : World) : DefIs (KK w) "mpf_ge" 161 ["s", "t"] [] (fbody (KK w) 161) (fscope (KK w) 161) 2 where
  at' := by kernel_rfl
  ok := ⟨_, _, _, _, _, _, _, _, _, _, _, _, _, rfl, rfl, [], fun _ _ => .nil, fun s vs X hl => by
    match vs, hl with
    | [a0, a1], _ => exact BindsTo.of_eq (by kernel_rfl)⟩
  nod := by decide
  loc := rfl
  ncell := rfl
  co := rfl
  gen := rfl
  kind := rfl
theorem d_mpf_pos (w : World) : DefIs (KK w) "mpf_pos" 169 ["s", "prec", "rnd"] [] (fbody (KK w) 169) (fscope (KK w) 169) 3 where
  at' := by kernel_rfl
  ok := ⟨_, _, _, _, _, _, _, _, _, _, _, _, _, rfl, rfl, (dflts (KK w) 169).drop 2, fun _ _ => .nil, fun s vs X hl => by
    match vs, hl with
    | [a0, a1, a2], _ => first | exact BindsTo.of_eq rfl | exact binds_K X rfl rfl rfl rfl (by kernel_rfl)⟩
  nod := by decide
  loc := rfl
  ncell := rfl
  co := rfl
  gen := rfl
  kind := rfl
theorem d_mpf_neg (w : World) : DefIs (KK w) "mpf_neg" 177 ["s", "prec", "rnd"] [] (fbody (KK w) 177) (fscope (KK w) 177) 3 where
  at' := by kernel_rfl
  ok := ⟨_, _, _, _, _, _, _, _, _, _, _, _, _, rfl, rfl, (dflts (KK w) 177).drop 2, fun _ _ => .nil, fun s vs X hl => by
    match vs, hl with
    | [a0, a1, a2], _ => first | exact BindsTo.of_eq rfl | exact binds_K X rfl rfl rfl rfl (by kernel_rfl)⟩
  nod := by decide
  loc := rfl
  ncell := rfl
  co := rfl
  gen := rfl
  kind := rfl
theorem d_mpf_sign (w : World) : DefIs (KK w) "mpf_sign" 184 ["s"] [] (fbody (KK w) 184) (fscope (KK w) 184) 1 where
  at' := by kernel_rfl
  ok := ⟨_, _, _, _, _, _, _, _, _, _, _, _, _, rfl, rfl, [], fun _ _ => .nil, fun s vs X hl => by
    match vs, hl with
    | [a0], _ => exact BindsTo.of_eq (by kernel_rfl)⟩
  nod := by decide
  loc := rfl
  ncell := rfl
  co := rfl
  gen := rfl
  kind := rfl
theorem d_mpf_add4 (w : World) : DefIs (KK w) "mpf_add" 192 ["s", "t", "prec", "rnd", "_sub"] [.int 0] (fbody (KK w) 192) (fscope (KK w) 192) 4 where
  at' := by kernel_rfl
  ok := ⟨_, _, _, _, _, _, _, _, _, _, _, _, _, rfl, rfl, (dflts (KK w) 192).drop 2, fun _ _ => .cons (.int _ _) (.nil), fun s vs X hl => by
    match vs, hl with
    | [a0, a1, a2, a3], _ => exact binds_K X rfl rfl rfl rfl (by kernel_rfl)⟩
  nod := by decide
  loc := rfl
  ncell := rfl
  co := rfl
  gen := rfl
  kind := rfl
theorem d_mpf_add5 (w : World) : DefIs (KK w) "mpf_add" 192 ["s", "t", "prec", "rnd", "_sub"] [] (fbody (KK w) 192) (fscope (KK w) 192) 5 where
  at' := by kernel_rfl
  ok := ⟨_, _, _, _, _, _, _, _, _, _, _, _, _, rfl, rfl, (dflts (KK w) 192).drop 3, fun _ _ => .nil, fun s vs X hl => by
    match vs, hl with
    | [a0, a1, a2, a3, a4], _ => first | exact BindsTo.of_eq rfl | exact binds_K X rfl rfl rfl rfl (by kernel_rfl)⟩
  nod := by decide
  loc := rfl
  ncell := rfl
  co := rfl
  gen := rfl
  kind := rfl
theorem d_mpf_sub2 (w : World) : DefIs (KK w) "mpf_sub" 200 ["s", "t", "prec", "rnd"] [.int 0, .str (Str.ofString "d")] (fbody (KK w) 200) (fscope (KK w) 200) 2 where
  at' := by kernel_rfl
  ok := ⟨_, _, _, _, _, _, _, _, _, _, _, _, _, rfl, rfl, (dflts (KK w) 200).drop 0, fun _ _ => .cons (.int _ _) (.cons (.str _ _) (.nil)), fun s vs X hl => by
    match vs, hl with
    | [a0, a1], _ => exact binds_K X rfl rfl rfl rfl (by kernel_rfl)⟩
  nod := by decide
  loc := rfl
  ncell := rfl
  co := rfl
  gen := rfl
  kind := rfl
theorem d_mpf_sub4 (w : World) : DefIs (KK w) "mpf_sub" 200 ["s", "t", "prec", "rnd"] [] (fbody (KK w) 200) (fscope (KK w) 200) 4 where
  at' := by kernel_rfl
  ok := ⟨_, _, _, _, _, _, _, _, _, _, _, _, _, rfl, rfl, (dflts (KK w) 200).drop 2, fun _ _ => .nil, fun s vs X hl => by
    match vs, hl with
    | [a0, a1, a2, a3], _ => first | exact BindsTo.of_eq rfl | exact binds_K X rfl rfl rfl rfl (by kernel_rfl)⟩
  nod := by decide
  loc := rfl
  ncell := rfl
  co := rfl
  gen := rfl
  kind := rfl
theorem d_mpf_mul (w : World) : DefIs (KK w) "mpf_mul" 208 ["s", "t", "prec", "rnd"] [.int 0, .str (Str.ofString "d")] (fbody (KK w) 208) (fscope (KK w) 208) 2 where
  at' := by kernel_rfl
  ok := ⟨_, _, _, _, _, _, _, _, _, _, _, _, _, rfl, rfl, (dflts (KK w) 208).drop 0, fun _ _ => .cons (.int _ _) (.cons (.str _ _) (.nil)), fun s vs X hl => by
    match vs, hl with
    | [a0, a1], _ => exact binds_K X rfl rfl rfl rfl (by kernel_rfl)⟩
  nod := by decide
  loc := rfl
  ncell := rfl
  co := rfl
  gen := rfl
  kind := rfl
theorem d_mpf_mul_int (w : World) : DefIs (KK w) "mpf_mul_int" 216 ["s", "n", "prec", "rnd"] [.str (Str.ofString "d")] (fbody (KK w) 216) (fscope (KK w) 216) 3 where
  at' := by kernel_rfl
  ok := ⟨_, _, _, _, _, _, _, _, _, _, _, _, _, rfl, rfl, (dflts (KK w) 216).drop 0, fun _ _ => .cons (.str _ _) (.nil), fun s vs X hl => by
    match vs, hl with
    | [a0, a1, a2], _ => exact binds_K X rfl rfl rfl rfl (by kernel_rfl)⟩
  nod := by decide
  loc := rfl
  ncell := rfl
  co := rfl
  gen := rfl
  kind := rfl
theorem d_mpf_div (w : World) : DefIs (KK w) "mpf_div" 224 ["s", "t", "prec", "rnd"] [] (fbody (KK w) 224) (fscope (KK w) 224) 4 where
  at' := by kernel_rfl
  ok := ⟨_, _, _, _, _, _, _, _, _, _, _, _, _, rfl, rfl, (dflts (KK w) 224).drop 1, fun _ _ => .nil, fun s vs X hl => by
    match vs, hl with
    | [a0, a1, a2, a3], _ => first | exact BindsTo.of_eq rfl | exact binds_K X rfl rfl rfl rfl (by kernel_rfl)⟩
  nod := by decide
  loc := rfl
  ncell := rfl
  co := rfl
  gen := rfl
  kind := rfl
theorem d_mpf_sqrt (w : World) : DefIs (KK w) "mpf_sqrt" 232 ["s", "prec", "rnd"] [] (fbody (KK w) 232) (fscope (KK w) 232) 3 where
  at' := by kernel_rfl
  ok := ⟨_, _, _, _, _, _, _, _, _, _, _, _, _, rfl, rfl, (dflts (KK w) 232).drop 1, fun _ _ => .nil, fun s vs X hl => by
    match vs, hl with
    | [a0, a1, a2], _ => first | exact BindsTo.of_eq rfl | exact binds_K X rfl rfl rfl rfl (by kernel_rfl)⟩
  nod := by decide
  loc := rfl
  ncell := rfl
  co := rfl
  gen := rfl
  kind := rfl
theorem d_mpi_lt (w : World) : DefIs (KK w) "mpi_lt" 239 ["s", "t"] [] (fbody (KK w) 239) (fscope (KK w) 239) 2 where
  at' := by kernel_rfl
  ok := ⟨_, _, _, _, _, _, _, _, _, _, _, _, _, rfl, rfl, [], fun _ _ => .nil, fun s vs X hl => by
    match vs, hl with
    | [a0, a1], _ => exact BindsTo.of_eq (by kernel_rfl)⟩
  nod := by decide
  loc := rfl
  ncell := rfl
  co := rfl
  gen := rfl
  kind := rfl
theorem d_mpi_add (w : World) : DefIs (KK w) "mpi_add" 247 ["s", "t", "prec"] [] (fbody (KK w) 247) (fscope (KK w) 247) 3 where
  at' := by kernel_rfl
  ok := ⟨_, _, _, _, _, _, _, _, _, _, _, _, _, rfl, rfl, (dflts (KK w) 247).drop 1, fun _ _ => .nil, fun s vs X hl => by
    match vs, hl with
    | [a0, a1, a2], _ => first | exact BindsTo.of_eq rfl | exact binds_K X rfl rfl rfl rfl (by kernel_rfl)⟩
  nod := by decide
  loc := rfl
  ncell := rfl
  co := rfl
  gen := rfl
  kind := rfl
theorem d_mpi_sub (w : World) : DefIs (KK w) "mpi_sub" 255 ["s", "t", "prec"] [] (fbody (KK w) 255) (fscope (KK w) 255) 3 where
  at' := by kernel_rfl
  ok := ⟨_, _, _, _, _, _, _, _, _, _, _, _, _, rfl, rfl, (dflts (KK w) 255).drop 1, fun _ _ => .nil, fun s vs X hl => by
    match vs, hl with
    | [a0, a1, a2], _ => first | exact BindsTo.of_eq rfl | exact binds_K X rfl rfl rfl rfl (by kernel_rfl)⟩
  nod := by decide
  loc := rfl
  ncell := rfl
  co := rfl
  gen := rfl
  kind := rfl
theorem d_mpi_neg (w : World) : DefIs (KK w) "mpi_neg" 263 ["s", "prec"] [] (fbody (KK w) 263) (fscope (KK w) 263) 2 where
  at' := by kernel_rfl
  ok := ⟨_, _, _, _, _, _, _, _, _, _, _, _, _, rfl, rfl, (dflts (KK w) 263).drop 1, fun _ _ => .nil, fun s vs X hl => by
    match vs, hl with
    | [a0, a1], _ => first | exact BindsTo.of_eq rfl | exact binds_K X rfl rfl rfl rfl (by kernel_rfl)⟩
  nod := by decide
  loc := rfl
  ncell := rfl
  co := rfl
  gen := rfl
  kind := rfl
theorem d_mpi_div (w : World) : DefIs (KK w) "mpi_div" 270 ["s", "t", "prec"] [] (fbody (KK w) 270) (fscope (KK w) 270) 3 where
  at' := by kernel_rfl
  ok := ⟨_, _, _, _, _, _, _, _, _, _, _, _, _, rfl, rfl, [], fun _ _ => .nil, fun s vs X hl => by
    match vs, hl with
    | [a0, a1, a2], _ => exact BindsTo.of_eq (by kernel_rfl)⟩
  nod := by decide
  loc := rfl
  ncell := rfl
  co := rfl
  gen := rfl
  kind := rfl
theorem d_mpi_sqrt (w : World) : DefIs (KK w) "mpi_sqrt" 277 ["s", "prec"] [] (fbody (KK w) 277) (fscope (KK w) 277) 2 where
  at' := by kernel_rfl
  ok := ⟨_, _, _, _, _, _, _, _, _, _, _, _, _, rfl, rfl, [], fun _ _ => .nil, fun s vs X hl => by
    match vs, hl with
    | [a0, a1], _ => exact BindsTo.of_eq (by kernel_rfl)⟩
  nod := by decide
  loc := rfl
  ncell := rfl
  co := rfl
  gen := rfl
  kind := rfl
theorem d_ulaw_root (w : World) : DefIs (KK w) "_law_root" 284 ["n"] [] (fbody (KK w) 284) (fscope (KK w) 284) 1 where
  at' := by kernel_rfl
  ok := ⟨_, _, _, _, _, _, _, _, _, _, _, _, _, rfl, rfl, [], fun _ _ => .nil, fun s vs X hl => by
    match vs, hl with
    | [a0], _ => exact BindsTo.of_eq (by kernel_rfl)⟩
  nod := by decide
  loc := rfl
  ncell := rfl
  co := rfl
  gen := rfl
  kind := rfl
theorem d_ulaw_holds (w : World) : DefIs (KK w) "_law_holds" 291 ["x", "m", "d", "n"] [] (fbody (KK w) 291) (fscope (KK w) 291) 4 where
  at' := by kernel_rfl
  ok := ⟨_, _, _, _, _, _, _, _, _, _, _, _, _, rfl, rfl, [], fun _ _ => .nil, fun s vs X hl => by
    match vs, hl with
    | [a0, a1, a2, a3], _ => exact BindsTo.of_eq (by kernel_rfl)⟩
  nod := by decide
  loc := rfl
  ncell := rfl
  co := rfl
  gen := rfl
  kind := rfl
theorem d_ulaw_point (w : World) : DefIs (KK w) "_law_point" 298 ["k"] [] (fbody (KK w) 298) (fscope (KK w) 298) 1 where
  at' := by kernel_rfl
  ok := ⟨_, _, _, _, _, _, _, _, _, _, _, _, _, rfl, rfl, [], fun _ _ => .nil, fun s vs X hl => by
    match vs, hl with
    | [a0], _ => exact BindsTo.of_eq (by kernel_rfl)⟩
  nod := by decide
  loc := rfl
  ncell := rfl
  co := rfl
  gen := rfl
  kind := rfl
theorem d_ulaw_beside (w : World) : DefIs (KK w) "_law_beside" 305 ["close", "first", "num", "den", "n"] [] (fbody (KK w) 305) (fscope (KK w) 305) 5 where
  at' := by kernel_rfl
  ok := ⟨_, _, _, _, _, _, _, _, _, _, _, _, _, rfl, rfl, [], fun _ _ => .nil, fun s vs X hl => by
    match vs, hl with
    | [a0, a1, a2, a3, a4], _ => exact BindsTo.of_eq (by kernel_rfl)⟩
  nod := by decide
  loc := rfl
  ncell := rfl
  co := rfl
  gen := rfl
  kind := rfl
theorem d_ulaw_read (w : World) : DefIs (KK w) "_law_read" 312 ["n", "p", "sure"] [] (fbody (KK w) 312) (fscope (KK w) 312) 3 where
  at' := by kernel_rfl
  ok := ⟨_, _, _, _, _, _, _, _, _, _, _, _, _, rfl, rfl, [], fun _ _ => .nil, fun s vs X hl => by
    match vs, hl with
    | [a0, a1, a2], _ => exact BindsTo.of_eq (by kernel_rfl)⟩
  nod := by decide
  loc := rfl
  ncell := rfl
  co := rfl
  gen := rfl
  kind := rfl

/-- the global data of the text -/
def GT : Ev := [("round_nearest", .str "n"), ("round_floor", .str "f"), ("round_ceiling", .str "c"), ("round_up", .str "u"), ("round_down", .str "d"), ("round_fast", .str "d"),
  ("MPZ_ZERO", .int 0), ("MPZ_ONE", .int 1),
  ("fzero", .tuple [.int 0, .int 0, .int 0, .int 0]), ("fone", .tuple [.int 0, .int 1, .int 0, .int 1]), ("fnone", .tuple [.int 1, .int 1, .int 0, .int 1]),
  ("fnan", .tuple [.int 0, .int 0, .int (-123), .int (-1)]), ("finf", .tuple [.int 0, .int 0, .int (-456), .int (-2)]), ("fninf", .tuple [.int 1, .int 0, .int (-789), .int (-3)]),
  ("shifts_down", .dict [(.int 69, .none)]), ("int", .dict [(.str "int", .none)])]
theorem gv_tup {K : Frag} {x : Str} {a : Addr} {o : Obj} {vs : Array Value} {n : Nat} {ds : List D} (h : nsIn K mainGlobals x = some (some (.ref a))) (ho : K.lookup a = some o) (hc : o.cls = .type "tuple") (hd : o.data = .seq vs n)
    (r : ∀ h, RVs h vs.toList ds) : GV K x (.tuple ds) := ⟨_, .inl h, fun _ X => .tup ⟨o, X _ _ ho, hc, n, hd⟩ (r _)⟩
theorem gok_nil {K : Frag} : GOk K [] := fun _ _ h => by cases h
theorem gok_cons {K : Frag} {y : Str} {e : D} {r : Ev} (h : GV K y e) (t : GOk K r) : GOk K ((y, e) :: r) := by
  intro x d q
  rw [lk] at q
  by_cases c : y = x
  · rw [if_pos c] at q; cases q; subst c; exact h
  · rw [if_neg c] at q; exact t x d q
theorem gok (w : World) : GOk (KK w) GT := by
  have S : ∀ (x y : Str) (t : Tok), nsIn (KK w) mainGlobals x = some (some (.str y t)) → GV (KK w) x (.str y) := fun x y t h => ⟨_, .inl h, fun _ _ => .str _ _⟩
  have N : ∀ (x : Str) (y : Int) (t : Tok), nsIn (KK w) mainGlobals x = some (some (.int y t)) → GV (KK w) x (.int y) := fun x y t h => ⟨_, .inl h, fun _ _ => .int _ _⟩
  refine gok_cons (S _ _ _ rfl) (gok_cons (S _ _ _ rfl) (gok_cons (S _ _ _ rfl) (gok_cons (S _ _ _ rfl) (gok_cons (S _ _ _ rfl) (gok_cons (S _ _ _ rfl) (gok_cons (N _ _ _ rfl) (gok_cons (N _ _ _ rfl) ?_)))))))
  iterate 6 refine gok_cons (gv_tup rfl rfl rfl rfl fun _ => .cons (.int _ _) (.cons (.int _ _) (.cons (.int _ _) (.cons (.int _ _) .nil)))) ?_
  exact gok_cons ⟨_, .inl rfl, fun _ _ => .obj _⟩ (gok_cons ⟨.type "int", .inr ⟨rfl, by decide, by decide +kernel⟩, fun _ _ => .typ _⟩ gok_nil)
end Mine

end
section
open PySem PySem.W PyProof.Rows PySem.Calls
set_option maxRecDepth 100000
namespace Mine
def tyInt : D := .dict [(.str "int", .none)]
section
variable {prog : Program} {w : World} {K : Frag} {n : Nat}
theorem spec_b {f : Str} {id : String} {ds : List D} {k : D → Prop} (hl : nsIn K mainGlobals f = some none) (hn : f ≠ "__name__") (hb : bootBuiltins f = some (.builtin id))
    (h : ∀ (A : Around) (s : Shared) (vs : List Value) (Q : Value → Shared → Prop), Rm n A → RVs s.heap vs ds → (∀ v s' d, k d → RV s'.heap v d → Ext s s' → Q v s') → wpAny (model prog w) A (call (.builtin id) vs) Q (fun _ _ => False) s) :
    Spec prog w K n f ds k := ⟨_, .inr ⟨hl, hn, hb⟩, trivial, fun A s vs Q R _ r q => h A s vs Q R r q⟩
theorem known_b {f : Str} {id : String} (hl : nsIn K mainGlobals f = some none) (hn : f ≠ "__name__") (hb : bootBuiltins f = some (.builtin id)) : Known K f := ⟨_, .inr ⟨hl, hn, hb⟩, trivial⟩
theorem rvs2 {h : Heap} {vs : List Value} {a b : D} (r : RVs h vs [a, b]) : ∃ v u, vs = [v, u] ∧ RV h v a ∧ RV h u b := by
  obtain ⟨v, l, rfl, r1, r'⟩ := r.inv_cons
  obtain ⟨u, l', rfl, r2, r''⟩ := r'.inv_cons
  obtain rfl := r''.inv_nil
  exact ⟨v, u, rfl, r1, r2⟩
theorem rvs1 {h : Heap} {vs : List Value} {a : D} (r : RVs h vs [a]) : ∃ v, vs = [v] ∧ RV h v a := by
  obtain ⟨v, l, rfl, r1, r'⟩ := r.inv_cons
  obtain rfl := r'.inv_nil
  exact ⟨v, rfl, r1⟩
theorem rv_ty {h : Heap} {v : Value} (r : RV h v tyInt) : v = .type "int" := by
  unfold tyInt at r
  generalize hd : (PyData.dict [(.str (Str.ofString "int"), .none)]) = d at r
  cases r with
  | typ T =>
    have : T = "int" := by
      injection hd with e
      injection e with e1 _
      injection e1 with e2 _
      injection e2 with e3
      exact ((ofs "int" T).mp e3).symm
    rw [this]
  | _ => first | cases hd | (injection hd with e; injection e with e1 _; injection e1 with e2 _; cases e2)
end
theorem known_isinstance (w : World) : Known (KK w) (Str.ofString "isinstance") := known_b (id := "isinstance") rfl (by decide) (by decide +kernel)
theorem isinstance_spec (w : World) (i : Int) : Spec PP w (KK w) 0 "isinstance" [.int i, tyInt] (· = .bool true) :=
  spec_b (id := "isinstance") rfl (by decide) (by decide +kernel) fun A s vs Q R r q => by
    obtain ⟨v, u, rfl, r1, r2⟩ := rvs2 r
    obtain ⟨t, rfl⟩ := r1.int_inv
    obtain rfl := rv_ty r2
    exact IsiPair.int_int (q _ _ _ rfl (.bool _) (Ext.refl _))
theorem known_divmod (w : World) : Known (KK w) (Str.ofString "divmod") := known_b (id := "divmod") rfl (by decide) (by decide +kernel)
theorem divmod_spec (w : World) {a b : Int} (hb : b ≠ 0) (hs : b.natAbs.log2 < 9000) : Spec PP w (KK w) 0 "divmod" [.int a, .int b] (· = .tuple [.int (a.fdiv b), .int (a.fmod b)]) :=
  spec_b (id := "divmod") rfl (by decide) (by decide +kernel) fun A s vs Q R r q => by
    obtain ⟨v, u, rfl, r1, r2⟩ := rvs2 r
    obtain ⟨t, rfl⟩ := r1.int_inv
    obtain ⟨t', rfl⟩ := r2.int_inv
    exact divmod_int hb (q _ _ _ rfl (.tup (IsTup.new _ _) (.cons (.int _ _) (.cons (.int _ _) .nil))) ⟨⟨_, _, rfl⟩, Kp.push _ _⟩) (.inl (PyProof.noPylong_of_log2 hs))
theorem known_max (w : World) : Known (KK w) (Str.ofString "max") := known_b (id := "max") rfl (by decide) (by decide +kernel)
theorem max_spec (w : World) (a b : Int) : Spec PP w (KK w) 0 "max" [.int a, .int b] (· = .int (if b > a then b else a)) :=
  spec_b (id := "max") rfl (by decide) (by decide +kernel) fun A s vs Q R r q => by
    obtain ⟨v, u, rfl, r1, r2⟩ := rvs2 r
    obtain ⟨t, rfl⟩ := r1.int_inv
    obtain ⟨t', rfl⟩ := r2.int_inv
    refine max_two_ints R.hh fun h' tk hk => q _ _ _ rfl ?_ ⟨⟨_, _, rfl⟩, hk⟩
    split <;> exact .int _ _
theorem known_min (w : World) : Known (KK w) (Str.ofString "min") := known_b (id := "min") rfl (by decide) (by decide +kernel)
theorem min_spec (w : World) (a b : Int) : Spec PP w (KK w) 0 "min" [.int a, .int b] (· = .int (if b < a then b else a)) :=
  spec_b (id := "min") rfl (by decide) (by decide +kernel) fun A s vs Q R r q => by
    obtain ⟨v, u, rfl, r1, r2⟩ := rvs2 r
    obtain ⟨t, rfl⟩ := r1.int_inv
    obtain ⟨t', rfl⟩ := r2.int_inv
    refine min_two_ints R.hh fun h' tk hk => q _ _ _ rfl ?_ ⟨⟨_, _, rfl⟩, hk⟩
    split <;> exact .int _ _
theorem known_abs (w : World) : Known (KK w) (Str.ofString "abs") := known_b (id := "abs") rfl (by decide) (by decide +kernel)
theorem abs_spec (w : World) (a : Int) : Spec PP w (KK w) 0 "abs" [.int a] (· = .int (if a < 0 then -a else a)) :=
  spec_b (id := "abs") rfl (by decide) (by decide +kernel) fun A s vs Q R r q => by
    obtain ⟨v, rfl, r1⟩ := rvs1 r
    obtain ⟨t, rfl⟩ := r1.int_inv
    exact call_abs_int fun u tk => q _ _ _ rfl (.int _ _) (ext_tok _ _)
theorem int_spec (w : World) (a : Int) : Spec PP w (KK w) 0 "int" [.int a] (· = .int a) :=
  ⟨.type "int", .inr ⟨rfl, by decide, by decide +kernel⟩, trivial, fun A s vs Q R _ r q => by
    obtain ⟨v, rfl, r1⟩ := rvs1 r
    obtain ⟨t, rfl⟩ := r1.int_inv
    exact call_int_int (q _ _ _ rfl (.int _ _) (Ext.refl _))⟩
theorem known_int (w : World) : Known (KK w) (Str.ofString "int") := ⟨.type "int", .inr ⟨rfl, by decide, by decide +kernel⟩, trivial⟩
end Mine

end
section
open PySem PySem.W PyProof.Rows PySem.Calls
set_option maxRecDepth 100000
namespace Mine
theorem spec_defk {prog : Program} {w : World} {K : Frag} {n : Nat} {G : Ev} {f : Str} {a : Addr} {names : List Str} {ds dds : List D} {body : List Stmt} {scope : Scope} {k : D → Prop} (hG : GOk K G) (S : DefIs K f a names dds body scope ds.length)
    (h : wps prog w K n scope G body (names.zip (ds ++ dds)) (kdf k)) : Spec prog w K (n + 1) f ds k := spec_def hG S h

def fl (sg m e b : Int) : D := .tuple [.int sg, .int m, .int e, .int b]
/-- a normalized float other than nought -/
def NF (d : D) (sg : Int) (m : Nat) (e : Int) (p : Nat) : Prop := d = fl sg m e (bl m) ∧ m % 2 = 1 ∧ bl m ≤ p

theorem trailing_spec (w : World) {q t : Nat} (h : q % 2 = 1) : Spec PP w (KK w) 1 "trailing" [.int ((q * 2 ^ t : Nat) : Int)] fun d => d = .int t := by
  (refine spec_defk (gok _) (d_trailing w) ?_; (conv => arg 7; whnf); (conv => arg 5; whnf); (conv => arg 8; simp only [List.cons_append, List.nil_append, List.zip_cons_cons, List.zip_nil_left, List.zip_nil_right, List.append_nil]); (conv => arg 6; unfold GT))
  simp only [↓s_nil, ↓s_cons, ↓s_pass, ↓s_brk, ↓s_ret, ↓s_asg, ↓s_tup, ↓s_aug, ↓s_if, ↓s_assert, ↓asg_nil, ↓asg_cons, ↓e_int, ↓e_str, ↓e_bool, ↓e_name, ↓e_bin, ↓e_un, ↓e_bool2, ↓e_if, ↓e_cmp, ↓e_call, ↓e_bits, ↓e_sub, ↓e_tup, ↓t_not, ↓t_bool, ↓t_if, ↓t_cmp, ↓t_name, ↓t_call, ↓t_bin, ↓t_const, ↓t_sub, ↓es_nil, ↓es_cons, ↓b_one, ↓b_and, ↓b_or, ↓a_nil_and, ↓a_nil_or, ↓a_and, ↓a_or, ↓c_one, ↓c_more, ↓d_one, ↓d_more, ↓tupk_tup, ↓intk_int, ↓ksq_next, ↓ksq_ret, ↓ksq_brk, ↓ksq_cont, ↓kdf_ret, ↓kdf_next, ↓klp_next, ↓klp_cont, ↓klp_brk, ↓klp_ret, ↓vl_cons, ↓vl_nil, ↓vg_cons, ↓vl0_cons, ↓upk_nil, ↓upk_cons, ↓bv_add, ↓bv_sub, ↓bv_mul, ↓bv_fdiv, ↓bv_mod, ↓bv_shl, ↓bv_shr, ↓bv_and, ↓bv_xor, ↓bv_pow, ↓av_add, ↓av_sub, ↓av_mul, ↓av_shl, ↓av_shr, ↓av_xor, ↓cv_eq, ↓cv_ne, ↓cv_lt, ↓cv_le, ↓cv_gt, ↓cv_ge, ↓cv_str, ↓cv_tup, ↓cv_in, ↓cv_instr, ↓tr_bool, ↓tr_int, ↓uv_neg, ↓uv_not, ↓br_dec, ↓br_tt, ↓br_ff, ↓br_not, ↓sub2_0, ↓sub2_1, ↓sub4_0, ok_name, ok_call, isG_eq, isL_eq, gk_cons, lc_cons, kg, kl, ↓reduceIte, List.all_cons, List.all_nil, List.isEmpty_cons, nstar, nset, nslice, ncall, ncomp, Bool.and_true, Bool.true_and, Bool.not_false, Bool.not_true, and_true, true_and, ne_eq, not_true, not_false_eq_true, List.length_cons, List.length_nil, ite_not, beq_self_eq_true, decide_false, decide_true, Bool.false_eq_true, ↓String.reduceEq, ↓String.reduceNe, Int.reduceLT, Int.reduceLE, Int.reduceGT, Int.reduceGE, Int.reduceEq, Int.reduceNe, Int.reduceNeg, Int.reduceAdd, Int.reduceSub, Int.reduceMul, Int.reduceToNat, Nat.reduceLT, Nat.reduceLeDiff, Nat.reduceAdd, Nat.reduceMul, Nat.reduceEqDiff]
  have hq : 0 < q := by omega
  have hp : 0 < q * 2 ^ t := Nat.mul_pos hq (Nat.two_pow_pos t)
  rw [if_neg (by omega), and_neg h]
  have : Builtin.Int.intBits ((2 ^ t : Nat) : Int) = t + 1 := by
    show bl (2 ^ t) = t + 1
    exact bl_eq (Nat.le_refl _) (by rw [Nat.pow_succ]; have := Nat.two_pow_pos t; omega)
  rw [this]
  congr 1
  omega
end Mine

end
section
open PySem PySem.W PyProof.Rows PySem.Calls
set_option maxRecDepth 100000
namespace Mine
theorem fdiv_nat (a b : Nat) : ((a : Int)).fdiv ((b : Nat) : Int) = ((a / b : Nat) : Int) := by
  rw [Int.fdiv_eq_ediv_of_nonneg _ (by omega)]; rfl
theorem two_cast (n : Nat) : (2 : Int) ^ n = ((2 ^ n : Nat) : Int) := by simp
theorem ceil_nat (a b : Nat) (hb : 0 < b) : -((-(a : Int)).fdiv ((b : Nat) : Int)) = (((a + b - 1) / b : Nat) : Int) := by
  rw [Int.fdiv_eq_ediv_of_nonneg _ (by omega)]
  have h1 := Int.mul_ediv_add_emod (-(a : Int)) b
  have h2 := Int.emod_nonneg (-(a : Int)) (show (b : Int) ≠ 0 by omega)
  have h3 := Int.emod_lt_of_pos (-(a : Int)) (show (0 : Int) < b by omega)
  have h4 := Nat.div_add_mod (a + b - 1) b
  have h5 := Nat.mod_lt (a + b - 1) hb
  have hz : (b : Int) * (((a + b - 1) / b : Nat) : Int) = (a : Int) + b - 1 - (((a + b - 1) % b : Nat) : Int) := by
    have := congrArg (fun n : Nat => (n : Int)) h4
    simp only [Int.natCast_add, Int.natCast_mul] at this
    omega
  generalize (((a + b - 1) / b : Nat) : Int) = Y at *
  generalize (-(a : Int)) / (b : Int) = X at *
  have hk : (b : Int) * (X + Y) = ((b : Int) * X) + (b : Int) * Y := Int.mul_add _ _ _
  have lo : -(b : Int) < (b : Int) * (X + Y) := by omega
  have hi : (b : Int) * (X + Y) < b := by omega
  have hb' : (0 : Int) < b := by omega
  rcases Int.lt_trichotomy (X + Y) 0 with h | h | h
  · have := Int.mul_le_mul_of_nonneg_left (show X + Y ≤ -1 by omega) (Int.le_of_lt hb'); omega
  · omega
  · have := Int.mul_le_mul_of_nonneg_left (show 1 ≤ X + Y by omega) (Int.le_of_lt hb'); omega

theorem known_trailing (w : World) : Known (KK w) (Str.ofString "trailing") := (d_trailing w).known
theorem strip_ok (w : World) {sg : Int} {q t : Nat} {e : Int} {bc : Nat} {k : D → Prop} (hq : q % 2 = 1) (hb : q = 1 ∨ bc = bl q + t) (hk : k (fl sg q (e + t) (bl q))) :
    if Builtin.bitAnd ((q * 2 ^ t : Nat) : Int) 1 = 0 then
      Known (KK w) (Str.ofString "trailing") ∧ Spec PP w (KK w) 1 (Str.ofString "trailing") [PyData.int ((q * 2 ^ t : Nat) : Int)] fun d =>
        augv Operator.RShift (PyData.int ((q * 2 ^ t : Nat) : Int)) d fun d_1 =>
          augv Operator.Add (PyData.int e) d fun d_2 =>
            augv Operator.Sub (PyData.int bc) d fun d =>
              cmpv CmpOp.Eq d_1 (PyData.int 1) fun c =>
                br c (k (PyData.tuple [PyData.int sg, d_1, d_2, PyData.int 1])) (k (PyData.tuple [PyData.int sg, d_1, d_2, d]))
    else
      if ((q * 2 ^ t : Nat) : Int) = 1 then k (PyData.tuple [PyData.int sg, PyData.int ((q * 2 ^ t : Nat) : Int), PyData.int e, PyData.int 1])
      else k (PyData.tuple [PyData.int sg, PyData.int ((q * 2 ^ t : Nat) : Int), PyData.int e, PyData.int bc]) := by
  have b1 : bl 1 = 1 := bl_eq (k := 0) (by decide) (by decide)
  split
  · refine ⟨known_trailing w, (trailing_spec w hq).mono fun d hd => ?_⟩
    subst hd
    simp only [↓s_nil, ↓s_cons, ↓s_pass, ↓s_brk, ↓s_ret, ↓s_asg, ↓s_tup, ↓s_aug, ↓s_if, ↓s_assert, ↓asg_nil, ↓asg_cons, ↓e_int, ↓e_str, ↓e_bool, ↓e_name, ↓e_bin, ↓e_un, ↓e_bool2, ↓e_if, ↓e_cmp, ↓e_call, ↓e_bits, ↓e_sub, ↓e_tup, ↓t_not, ↓t_bool, ↓t_if, ↓t_cmp, ↓t_name, ↓t_call, ↓t_bin, ↓t_const, ↓t_sub, ↓es_nil, ↓es_cons, ↓b_one, ↓b_and, ↓b_or, ↓a_nil_and, ↓a_nil_or, ↓a_and, ↓a_or, ↓c_one, ↓c_more, ↓d_one, ↓d_more, ↓tupk_tup, ↓intk_int, ↓ksq_next, ↓ksq_ret, ↓ksq_brk, ↓ksq_cont, ↓kdf_ret, ↓kdf_next, ↓klp_next, ↓klp_cont, ↓klp_brk, ↓klp_ret, ↓vl_cons, ↓vl_nil, ↓vg_cons, ↓vl0_cons, ↓upk_nil, ↓upk_cons, ↓bv_add, ↓bv_sub, ↓bv_mul, ↓bv_fdiv, ↓bv_mod, ↓bv_shl, ↓bv_shr, ↓bv_and, ↓bv_xor, ↓bv_pow, ↓av_add, ↓av_sub, ↓av_mul, ↓av_shl, ↓av_shr, ↓av_xor, ↓cv_eq, ↓cv_ne, ↓cv_lt, ↓cv_le, ↓cv_gt, ↓cv_ge, ↓cv_str, ↓cv_tup, ↓cv_in, ↓cv_instr, ↓tr_bool, ↓tr_int, ↓uv_neg, ↓uv_not, ↓br_dec, ↓br_tt, ↓br_ff, ↓br_not, ↓sub2_0, ↓sub2_1, ↓sub4_0, ok_name, ok_call, isG_eq, isL_eq, gk_cons, lc_cons, kg, kl, ↓reduceIte, List.all_cons, List.all_nil, List.isEmpty_cons, nstar, nset, nslice, ncall, ncomp, Bool.and_true, Bool.true_and, Bool.not_false, Bool.not_true, and_true, true_and, ne_eq, not_true, not_false_eq_true, List.length_cons, List.length_nil, ite_not, beq_self_eq_true, decide_false, decide_true, Bool.false_eq_true, ↓String.reduceEq, ↓String.reduceNe, Int.reduceLT, Int.reduceLE, Int.reduceGT, Int.reduceGE, Int.reduceEq, Int.reduceNe, Int.reduceNeg, Int.reduceAdd, Int.reduceSub, Int.reduceMul, Int.reduceToNat, Nat.reduceLT, Nat.reduceLeDiff, Nat.reduceAdd, Nat.reduceMul, Nat.reduceEqDiff]
    refine ⟨by omega, ?_⟩
    have hs : ((q * 2 ^ t : Nat) : Int).fdiv (2 ^ (t : Int).toNat) = (q : Int) := by
      rw [Int.toNat_natCast, two_cast, fdiv_nat, Nat.mul_div_cancel _ (Nat.two_pow_pos t)]
    rw [hs]
    split
    · have : q = 1 := by omega
      subst this
      rw [b1] at hk; exact hk
    · rename_i hne
      have hb' : bc = bl q + t := hb.resolve_left fun h => hne (by omega)
      have : (bc : Int) - t = bl q := by omega
      rw [this]; exact hk
  · rename_i hodd
    have ht : t = 0 := by
      rcases t with _ | t
      · rfl
      · exfalso; apply hodd
        rw [bitAnd_m1]
        have : q * 2 ^ (t + 1) = 2 * (q * 2 ^ t) := by rw [Nat.pow_succ]; grind
        omega
    subst ht
    simp only [Nat.pow_zero, Nat.mul_one]
    simp only [Int.natCast_zero, Int.add_zero] at hk
    split
    · have : q = 1 := by omega
      subst this
      rw [b1] at hk; exact hk
    · rename_i hne
      have hb' : bc = bl q + 0 := hb.resolve_left fun h => hne (by omega)
      rw [hb', Nat.add_zero]; exact hk

theorem unorm_down {p N : Nat} {e : Int} {q t : Nat} (hp : 1 ≤ p) (hN : 0 < N) (hb : p < bl N) (h : N / 2 ^ (bl N - p) = q * 2 ^ t) (hq : q % 2 = 1) :
    (q = 1 ∨ p = bl q + t) ∧ bl q ≤ p ∧ RDn p (N * pw e) (q * pw (e + ((bl N : Int) - p) + t)) := by
  have h1 := bl_lo hN
  have h2 := bl_up N
  have hn : bl N - 1 = (p - 1) + (bl N - p) := by omega
  have hlo : 2 ^ (p - 1) ≤ N / 2 ^ (bl N - p) := by
    rw [Nat.le_div_iff_mul_le (Nat.two_pow_pos _), ← Nat.pow_add, ← hn]; exact h1
  have hhi : N / 2 ^ (bl N - p) < 2 ^ p := by
    rw [Nat.div_lt_iff_lt_mul (Nat.two_pow_pos _), ← Nat.pow_add, show p + (bl N - p) = bl N by omega]; exact h2
  have hbl : bl (N / 2 ^ (bl N - p)) = p := by
    have := bl_eq (k := p - 1) hlo (by rw [show p - 1 + 1 = p by omega]; exact hhi); omega
  have hq0 : 0 < q := by omega
  rw [h, bl_shift hq0] at hbl
  refine ⟨.inr hbl.symm, by omega, ?_⟩
  have e1 : (q : Rat) * pw (e + ((bl N : Int) - p) + t) = ((N / 2 ^ (bl N - p) : Nat) : Rat) * pw (e + ((bl N - p : Nat) : Int)) := by
    rw [h, ← liftn]
    congr 2; omega
  rw [e1]
  exact rdn_nat hp (Nat.div_mul_le_self _ _) (by
    have := Nat.div_add_mod N (2 ^ (bl N - p)); have := Nat.mod_lt N (Nat.two_pow_pos (bl N - p)); rw [Nat.add_mul, Nat.mul_comm]; omega) hlo
theorem odd_pow {q t p : Nat} (hq : q % 2 = 1) (h : q * 2 ^ t = 2 ^ p) : q = 1 := by
  have ht : t ≤ p := (Nat.pow_le_pow_iff_right (by decide : 1 < 2)).mp (by rw [← h]; exact Nat.le_mul_of_pos_left _ (by omega))
  have e : q = 2 ^ (p - t) := Nat.eq_of_mul_eq_mul_right (Nat.two_pow_pos t) (by rw [h, ← Nat.pow_add]; congr 1; omega)
  rcases hj : p - t with _ | j
  · rw [e, hj]
  · rw [hj, Nat.pow_succ] at e; omega
theorem unorm_up {p N : Nat} {e : Int} {q t : Nat} (hp : 1 ≤ p) (hN : 0 < N) (hb : p < bl N) (h : (N + 2 ^ (bl N - p) - 1) / 2 ^ (bl N - p) = q * 2 ^ t) (hq : q % 2 = 1) :
    (q = 1 ∨ p = bl q + t) ∧ bl q ≤ p ∧ RUp p (N * pw e) (q * pw (e + ((bl N : Int) - p) + t)) := by
  have h1 := bl_lo hN
  have h2 := bl_up N
  have hn : bl N - 1 = (p - 1) + (bl N - p) := by omega
  have hn' : bl N = p + (bl N - p) := by omega
  have g0 : 2 ^ (p - 1) * 2 ^ (bl N - p) ≤ N := by rw [← Nat.pow_add, ← hn]; exact h1
  have g1 : N < 2 ^ p * 2 ^ (bl N - p) := by rw [← Nat.pow_add, ← hn']; exact h2
  have hc := Nat.div_add_mod (N + 2 ^ (bl N - p) - 1) (2 ^ (bl N - p))
  have hm := Nat.mod_lt (N + 2 ^ (bl N - p) - 1) (Nat.two_pow_pos (bl N - p))
  have hpos := Nat.two_pow_pos (bl N - p)
  have e1 : (q : Rat) * pw (e + ((bl N : Int) - p) + t) = (((N + 2 ^ (bl N - p) - 1) / 2 ^ (bl N - p) : Nat) : Rat) * pw (e + ((bl N - p : Nat) : Int)) := by
    rw [h, ← liftn]
    congr 2; omega
  rw [e1]
  generalize hM : (N + 2 ^ (bl N - p) - 1) / 2 ^ (bl N - p) = M at *
  generalize hG : 2 ^ (bl N - p) = G at *
  rw [Nat.mul_comm] at hc
  have a1 : N ≤ M * G := by omega
  have a2 : M * G < N + G := by omega
  have lo : 2 ^ (p - 1) ≤ M := by
    rcases Nat.lt_or_ge M (2 ^ (p - 1)) with hh | hh
    · have := Nat.mul_le_mul_right G (show M + 1 ≤ _ from hh); rw [Nat.add_mul] at this; omega
    · exact hh
  have hi : M ≤ 2 ^ p := by
    rcases Nat.lt_or_ge (2 ^ p) M with hh | hh
    · have := Nat.mul_le_mul_right G (show 2 ^ p + 1 ≤ M from hh); rw [Nat.add_mul] at this; omega
    · exact hh
  have hq0 : 0 < q := by omega
  have R : RUp p (N * pw e) (M * pw (e + ((bl N - p : Nat) : Int))) := rup_nat hp (by rw [hG]; exact a1) (by rw [hG]; exact a2) (by rw [hG]; exact g0)
  rcases Nat.lt_or_ge M (2 ^ p) with hlt | hge
  · have hbl : bl M = p := by
      have := bl_eq (k := p - 1) lo (by rw [show p - 1 + 1 = p by omega]; exact hlt); omega
    rw [h, bl_shift hq0] at hbl
    exact ⟨.inr hbl.symm, by omega, R⟩
  · have hM2 : M = 2 ^ p := by omega
    have hq1 : q = 1 := by
      rw [h] at hM2
      exact odd_pow hq hM2
    subst hq1
    have b1 : bl 1 = 1 := bl_eq (k := 0) (by decide) (by decide)
    exact ⟨.inl rfl, by omega, R⟩

/-- what _normalize hands back, by the direction -/
def Dir (dn : Bool) (p : Nat) (v r : Rat) : Prop := if dn then RDn p v r else RUp p v r
theorem Dir.self {dn : Bool} {p : Nat} {v : Rat} : Dir dn p v v := by cases dn; exact RUp.self; exact RDn.self
/-- a normalized float, not nought, of sign sg and at most p bits, that rounds v -/
def Rounded (sg : Int) (p : Nat) (dn : Bool) (v : Rat) (d : D) : Prop := ∃ M E, NF d sg M E p ∧ Dir dn p v (M * pw E)
theorem unorm (w : World) {sg : Int} {x : String} {N : Nat} {e : Int} {p : Nat} {a0 a1 : Int} (hx : ¬ x = "n") (hrow : TabRow (KK w) 69 (Str.ofString x) [a0, a1]) (hsg : sg = 0 ∨ sg = 1) (hN : 0 < N) (hp : 1 ≤ p) :
    Spec PP w (KK w) 2 "_normalize" [.int sg, .int N, .int e, .int (bl N), .int p, .str x] (Rounded sg p (decide ((if sg = 0 then a0 else a1) ≠ 0)) (N * pw e)) := by
  (refine spec_defk (gok _) (d_unormalize w) ?_; (conv => arg 7; whnf); (conv => arg 5; whnf); (conv => arg 8; simp only [List.cons_append, List.nil_append, List.zip_cons_cons, List.zip_nil_left, List.zip_nil_right, List.append_nil]); (conv => arg 6; unfold GT))
  simp only [↓s_nil, ↓s_cons, ↓s_pass, ↓s_brk, ↓s_ret, ↓s_asg, ↓s_tup, ↓s_aug, ↓s_if, ↓s_assert, ↓asg_nil, ↓asg_cons, ↓e_int, ↓e_str, ↓e_bool, ↓e_name, ↓e_bin, ↓e_un, ↓e_bool2, ↓e_if, ↓e_cmp, ↓e_call, ↓e_bits, ↓e_sub, ↓e_tup, ↓t_not, ↓t_bool, ↓t_if, ↓t_cmp, ↓t_name, ↓t_call, ↓t_bin, ↓t_const, ↓t_sub, ↓es_nil, ↓es_cons, ↓b_one, ↓b_and, ↓b_or, ↓a_nil_and, ↓a_nil_or, ↓a_and, ↓a_or, ↓c_one, ↓c_more, ↓d_one, ↓d_more, ↓tupk_tup, ↓intk_int, ↓ksq_next, ↓ksq_ret, ↓ksq_brk, ↓ksq_cont, ↓kdf_ret, ↓kdf_next, ↓klp_next, ↓klp_cont, ↓klp_brk, ↓klp_ret, ↓vl_cons, ↓vl_nil, ↓vg_cons, ↓vl0_cons, ↓upk_nil, ↓upk_cons, ↓bv_add, ↓bv_sub, ↓bv_mul, ↓bv_fdiv, ↓bv_mod, ↓bv_shl, ↓bv_shr, ↓bv_and, ↓bv_xor, ↓bv_pow, ↓av_add, ↓av_sub, ↓av_mul, ↓av_shl, ↓av_shr, ↓av_xor, ↓cv_eq, ↓cv_ne, ↓cv_lt, ↓cv_le, ↓cv_gt, ↓cv_ge, ↓cv_str, ↓cv_tup, ↓cv_in, ↓cv_instr, ↓tr_bool, ↓tr_int, ↓uv_neg, ↓uv_not, ↓br_dec, ↓br_tt, ↓br_ff, ↓br_not, ↓sub2_0, ↓sub2_1, ↓sub4_0, ok_name, ok_call, isG_eq, isL_eq, gk_cons, lc_cons, kg, kl, ↓reduceIte, List.all_cons, List.all_nil, List.isEmpty_cons, nstar, nset, nslice, ncall, ncomp, Bool.and_true, Bool.true_and, Bool.not_false, Bool.not_true, and_true, true_and, ne_eq, not_true, not_false_eq_true, List.length_cons, List.length_nil, ite_not, beq_self_eq_true, decide_false, decide_true, Bool.false_eq_true, ↓String.reduceEq, ↓String.reduceNe, Int.reduceLT, Int.reduceLE, Int.reduceGT, Int.reduceGE, Int.reduceEq, Int.reduceNe, Int.reduceNeg, Int.reduceAdd, Int.reduceSub, Int.reduceMul, Int.reduceToNat, Nat.reduceLT, Nat.reduceLeDiff, Nat.reduceAdd, Nat.reduceMul, Nat.reduceEqDiff]
  simp only [hx, if_false]
  rw [if_neg (by omega)]
  split
  · rename_i hb
    have hb' : p < bl N := by omega
    have hnn : ((bl N : Int) - p).toNat = bl N - p := by omega
    refine ⟨[a0, a1], hrow, ?_⟩
    have pick : ∀ c, (∀ z, z = (if sg = 0 then a0 else a1) → c (.int z)) → subv (KK w) (.tuple (List.map .int [a0, a1])) (.int sg) c := by
      intro c hc
      rcases hsg with rfl | rfl
      · simp only [List.map_cons, List.map_nil, sub2_0]; exact hc a0 (by simp)
      · simp only [List.map_cons, List.map_nil, sub2_1]; exact hc a1 (by simp)
    refine pick _ fun z hz => ?_
    simp only [↓s_nil, ↓s_cons, ↓s_pass, ↓s_brk, ↓s_ret, ↓s_asg, ↓s_tup, ↓s_aug, ↓s_if, ↓s_assert, ↓asg_nil, ↓asg_cons, ↓e_int, ↓e_str, ↓e_bool, ↓e_name, ↓e_bin, ↓e_un, ↓e_bool2, ↓e_if, ↓e_cmp, ↓e_call, ↓e_bits, ↓e_sub, ↓e_tup, ↓t_not, ↓t_bool, ↓t_if, ↓t_cmp, ↓t_name, ↓t_call, ↓t_bin, ↓t_const, ↓t_sub, ↓es_nil, ↓es_cons, ↓b_one, ↓b_and, ↓b_or, ↓a_nil_and, ↓a_nil_or, ↓a_and, ↓a_or, ↓c_one, ↓c_more, ↓d_one, ↓d_more, ↓tupk_tup, ↓intk_int, ↓ksq_next, ↓ksq_ret, ↓ksq_brk, ↓ksq_cont, ↓kdf_ret, ↓kdf_next, ↓klp_next, ↓klp_cont, ↓klp_brk, ↓klp_ret, ↓vl_cons, ↓vl_nil, ↓vg_cons, ↓vl0_cons, ↓upk_nil, ↓upk_cons, ↓bv_add, ↓bv_sub, ↓bv_mul, ↓bv_fdiv, ↓bv_mod, ↓bv_shl, ↓bv_shr, ↓bv_and, ↓bv_xor, ↓bv_pow, ↓av_add, ↓av_sub, ↓av_mul, ↓av_shl, ↓av_shr, ↓av_xor, ↓cv_eq, ↓cv_ne, ↓cv_lt, ↓cv_le, ↓cv_gt, ↓cv_ge, ↓cv_str, ↓cv_tup, ↓cv_in, ↓cv_instr, ↓tr_bool, ↓tr_int, ↓uv_neg, ↓uv_not, ↓br_dec, ↓br_tt, ↓br_ff, ↓br_not, ↓sub2_0, ↓sub2_1, ↓sub4_0, ok_name, ok_call, isG_eq, isL_eq, gk_cons, lc_cons, kg, kl, ↓reduceIte, List.all_cons, List.all_nil, List.isEmpty_cons, nstar, nset, nslice, ncall, ncomp, Bool.and_true, Bool.true_and, Bool.not_false, Bool.not_true, and_true, true_and, ne_eq, not_true, not_false_eq_true, List.length_cons, List.length_nil, ite_not, beq_self_eq_true, decide_false, decide_true, Bool.false_eq_true, ↓String.reduceEq, ↓String.reduceNe, Int.reduceLT, Int.reduceLE, Int.reduceGT, Int.reduceGE, Int.reduceEq, Int.reduceNe, Int.reduceNeg, Int.reduceAdd, Int.reduceSub, Int.reduceMul, Int.reduceToNat, Nat.reduceLT, Nat.reduceLeDiff, Nat.reduceAdd, Nat.reduceMul, Nat.reduceEqDiff]
    rw [← hz]
    split
    · rename_i hz0
      refine ⟨by omega, ?_⟩
      have hpos : 0 < (N + 2 ^ (bl N - p) - 1) / 2 ^ (bl N - p) := Nat.div_pos (by omega) (Nat.two_pow_pos _)
      obtain ⟨q, t, hqt, hq⟩ := odd_part _ hpos
      obtain ⟨h1, h2, h3⟩ := unorm_up (e := e) hp hN hb' hqt hq
      rw [hnn, two_cast, ceil_nat _ _ (Nat.two_pow_pos _), hqt]
      exact strip_ok w hq h1 ⟨q, _, ⟨rfl, hq, h2⟩, by rw [decide_eq_false (by simp [hz0])]; exact h3⟩
    · rename_i hz0
      refine ⟨by omega, ?_⟩
      have hpos : 0 < N / 2 ^ (bl N - p) := Nat.div_pos (Nat.le_trans (Nat.pow_le_pow_right (by decide) (by omega)) (bl_lo hN)) (Nat.two_pow_pos _)
      obtain ⟨q, t, hqt, hq⟩ := odd_part _ hpos
      obtain ⟨h1, h2, h3⟩ := unorm_down (e := e) hp hN hb' hqt hq
      rw [hnn, two_cast, fdiv_nat, hqt]
      exact strip_ok w hq h1 ⟨q, _, ⟨rfl, hq, h2⟩, by rw [decide_eq_true (by simp [hz0])]; exact h3⟩
  · rename_i hb
    obtain ⟨q, t, hqt, hq⟩ := odd_part N hN
    have hbl : bl N = bl q + t := by rw [hqt]; exact bl_shift (by omega)
    have e1 : (q : Rat) * pw (e + t) = N * pw e := by rw [liftn, ← hqt]
    rw [hbl]
    rw [show ((N : Nat) : Int) = ((q * 2 ^ t : Nat) : Int) by rw [← hqt]]
    refine strip_ok w hq (.inr rfl) ⟨q, _, ⟨rfl, hq, by omega⟩, ?_⟩
    rw [e1]
    exact Dir.self
end Mine

end
section
open PySem PySem.W PyProof.Rows PySem.Calls
set_option maxRecDepth 100000
namespace Mine
/-- a direction's row in the text's table, at a sign -/
structure Mode (w : World) (x : String) (sg : Int) (dn : Bool) : Prop where
  ne : ¬ x = "n"
  row : ∃ a0 a1, TabRow (KK w) 69 (Str.ofString x) [a0, a1] ∧ dn = decide ((if sg = 0 then a0 else a1) ≠ 0)
  sg : sg = 0 ∨ sg = 1
theorem table_is (w : World) : ∀ h, Frag.In (KK w) h → KTD.TextTab h 69 [("f", .tup [.int 1, .int 0]), ("c", .tup [.int 0, .int 1]), ("d", .tup [.int 1, .int 1]), ("u", .tup [.int 0, .int 0])] :=
  fun h X => KTD.text_of_look (get := fun b => (KK w).lookup b) (fun b o q => X b o q) rfl
theorem mode_f0 (w : World) : Mode w "f" 0 true := ⟨by decide, ⟨1, 0, ⟨_, table_is w, rfl⟩, rfl⟩, .inl rfl⟩
theorem mode_f1 (w : World) : Mode w "f" 1 false := ⟨by decide, ⟨1, 0, ⟨_, table_is w, rfl⟩, rfl⟩, .inr rfl⟩
theorem mode_c0 (w : World) : Mode w "c" 0 false := ⟨by decide, ⟨0, 1, ⟨_, table_is w, rfl⟩, rfl⟩, .inl rfl⟩
theorem mode_d0 (w : World) : Mode w "d" 0 true := ⟨by decide, ⟨1, 1, ⟨_, table_is w, rfl⟩, rfl⟩, .inl rfl⟩
theorem mode_d1 (w : World) : Mode w "d" 1 true := ⟨by decide, ⟨1, 1, ⟨_, table_is w, rfl⟩, rfl⟩, .inr rfl⟩

theorem unorm_m (w : World) {sg : Int} {x : String} {dn : Bool} {N : Nat} {e : Int} {p : Nat} (M : Mode w x sg dn) (hN : 0 < N) (hp : 1 ≤ p) :
    Spec PP w (KK w) 2 "_normalize" [.int sg, .int N, .int e, .int (bl N), .int p, .str x] (Rounded sg p dn (N * pw e)) := by
  obtain ⟨a0, a1, hr, rfl⟩ := M.row
  exact unorm w M.ne hr M.sg hN hp
theorem unorm_0 (w : World) {sg e b p : Int} {x : String} : Spec PP w (KK w) 2 "_normalize" [.int sg, .int 0, .int e, .int b, .int p, .str x] (· = fl 0 0 0 0) := by
  (refine spec_defk (gok _) (d_unormalize w) ?_; (conv => arg 7; whnf); (conv => arg 5; whnf); (conv => arg 8; simp only [List.cons_append, List.nil_append, List.zip_cons_cons, List.zip_nil_left, List.zip_nil_right, List.append_nil]); (conv => arg 6; unfold GT))
  simp only [↓s_nil, ↓s_cons, ↓s_pass, ↓s_brk, ↓s_ret, ↓s_asg, ↓s_tup, ↓s_aug, ↓s_if, ↓s_assert, ↓asg_nil, ↓asg_cons, ↓e_int, ↓e_str, ↓e_bool, ↓e_name, ↓e_bin, ↓e_un, ↓e_bool2, ↓e_if, ↓e_cmp, ↓e_call, ↓e_bits, ↓e_sub, ↓e_tup, ↓t_not, ↓t_bool, ↓t_if, ↓t_cmp, ↓t_name, ↓t_call, ↓t_bin, ↓t_const, ↓t_sub, ↓es_nil, ↓es_cons, ↓b_one, ↓b_and, ↓b_or, ↓a_nil_and, ↓a_nil_or, ↓a_and, ↓a_or, ↓c_one, ↓c_more, ↓d_one, ↓d_more, ↓tupk_tup, ↓intk_int, ↓ksq_next, ↓ksq_ret, ↓ksq_brk, ↓ksq_cont, ↓kdf_ret, ↓kdf_next, ↓klp_next, ↓klp_cont, ↓klp_brk, ↓klp_ret, ↓vl_cons, ↓vl_nil, ↓vg_cons, ↓vl0_cons, ↓upk_nil, ↓upk_cons, ↓bv_add, ↓bv_sub, ↓bv_mul, ↓bv_fdiv, ↓bv_mod, ↓bv_shl, ↓bv_shr, ↓bv_and, ↓bv_xor, ↓bv_pow, ↓av_add, ↓av_sub, ↓av_mul, ↓av_shl, ↓av_shr, ↓av_xor, ↓cv_eq, ↓cv_ne, ↓cv_lt, ↓cv_le, ↓cv_gt, ↓cv_ge, ↓cv_str, ↓cv_tup, ↓cv_in, ↓cv_instr, ↓tr_bool, ↓tr_int, ↓uv_neg, ↓uv_not, ↓br_dec, ↓br_tt, ↓br_ff, ↓br_not, ↓sub2_0, ↓sub2_1, ↓sub4_0, ok_name, ok_call, isG_eq, isL_eq, gk_cons, lc_cons, kg, kl, ↓reduceIte, List.all_cons, List.all_nil, List.isEmpty_cons, nstar, nset, nslice, ncall, ncomp, Bool.and_true, Bool.true_and, Bool.not_false, Bool.not_true, and_true, true_and, ne_eq, not_true, not_false_eq_true, List.length_cons, List.length_nil, ite_not, beq_self_eq_true, decide_false, decide_true, Bool.false_eq_true, ↓String.reduceEq, ↓String.reduceNe, Int.reduceLT, Int.reduceLE, Int.reduceGT, Int.reduceGE, Int.reduceEq, Int.reduceNe, Int.reduceNeg, Int.reduceAdd, Int.reduceSub, Int.reduceMul, Int.reduceToNat, Nat.reduceLT, Nat.reduceLeDiff, Nat.reduceAdd, Nat.reduceMul, Nat.reduceEqDiff]
  rfl
theorem known_unorm (w : World) : Known (KK w) (Str.ofString "_normalize") := (d_unormalize w).known
theorem norm_m (w : World) {sg : Int} {x : String} {dn : Bool} {N : Nat} {e : Int} {p : Nat} (M : Mode w x sg dn) (hN : 0 < N) (hp : 1 ≤ p) :
    Spec PP w (KK w) 3 "normalize" [.int sg, .int N, .int e, .int (bl N), .int p, .str x] (Rounded sg p dn (N * pw e)) := by
  (refine spec_defk (gok _) (d_normalize w) ?_; (conv => arg 7; whnf); (conv => arg 5; whnf); (conv => arg 8; simp only [List.cons_append, List.nil_append, List.zip_cons_cons, List.zip_nil_left, List.zip_nil_right, List.append_nil]); (conv => arg 6; unfold GT))
  simp only [↓s_nil, ↓s_cons, ↓s_pass, ↓s_brk, ↓s_ret, ↓s_asg, ↓s_tup, ↓s_aug, ↓s_if, ↓s_assert, ↓asg_nil, ↓asg_cons, ↓e_int, ↓e_str, ↓e_bool, ↓e_name, ↓e_bin, ↓e_un, ↓e_bool2, ↓e_if, ↓e_cmp, ↓e_call, ↓e_bits, ↓e_sub, ↓e_tup, ↓t_not, ↓t_bool, ↓t_if, ↓t_cmp, ↓t_name, ↓t_call, ↓t_bin, ↓t_const, ↓t_sub, ↓es_nil, ↓es_cons, ↓b_one, ↓b_and, ↓b_or, ↓a_nil_and, ↓a_nil_or, ↓a_and, ↓a_or, ↓c_one, ↓c_more, ↓d_one, ↓d_more, ↓tupk_tup, ↓intk_int, ↓ksq_next, ↓ksq_ret, ↓ksq_brk, ↓ksq_cont, ↓kdf_ret, ↓kdf_next, ↓klp_next, ↓klp_cont, ↓klp_brk, ↓klp_ret, ↓vl_cons, ↓vl_nil, ↓vg_cons, ↓vl0_cons, ↓upk_nil, ↓upk_cons, ↓bv_add, ↓bv_sub, ↓bv_mul, ↓bv_fdiv, ↓bv_mod, ↓bv_shl, ↓bv_shr, ↓bv_and, ↓bv_xor, ↓bv_pow, ↓av_add, ↓av_sub, ↓av_mul, ↓av_shl, ↓av_shr, ↓av_xor, ↓cv_eq, ↓cv_ne, ↓cv_lt, ↓cv_le, ↓cv_gt, ↓cv_ge, ↓cv_str, ↓cv_tup, ↓cv_in, ↓cv_instr, ↓tr_bool, ↓tr_int, ↓uv_neg, ↓uv_not, ↓br_dec, ↓br_tt, ↓br_ff, ↓br_not, ↓sub2_0, ↓sub2_1, ↓sub4_0, ok_name, ok_call, isG_eq, isL_eq, gk_cons, lc_cons, kg, kl, ↓reduceIte, List.all_cons, List.all_nil, List.isEmpty_cons, nstar, nset, nslice, ncall, ncomp, Bool.and_true, Bool.true_and, Bool.not_false, Bool.not_true, and_true, true_and, ne_eq, not_true, not_false_eq_true, List.length_cons, List.length_nil, ite_not, beq_self_eq_true, decide_false, decide_true, Bool.false_eq_true, ↓String.reduceEq, ↓String.reduceNe, Int.reduceLT, Int.reduceLE, Int.reduceGT, Int.reduceGE, Int.reduceEq, Int.reduceNe, Int.reduceNeg, Int.reduceAdd, Int.reduceSub, Int.reduceMul, Int.reduceToNat, Nat.reduceLT, Nat.reduceLeDiff, Nat.reduceAdd, Nat.reduceMul, Nat.reduceEqDiff]
  exact ⟨decide_eq_true rfl, decide_eq_true (by omega), known_unorm w, unorm_m w M hN hp⟩
theorem norm_0 (w : World) {sg e p : Int} {x : String} : Spec PP w (KK w) 3 "normalize" [.int sg, .int 0, .int e, .int 0, .int p, .str x] (· = fl 0 0 0 0) := by
  (refine spec_defk (gok _) (d_normalize w) ?_; (conv => arg 7; whnf); (conv => arg 5; whnf); (conv => arg 8; simp only [List.cons_append, List.nil_append, List.zip_cons_cons, List.zip_nil_left, List.zip_nil_right, List.append_nil]); (conv => arg 6; unfold GT))
  simp only [↓s_nil, ↓s_cons, ↓s_pass, ↓s_brk, ↓s_ret, ↓s_asg, ↓s_tup, ↓s_aug, ↓s_if, ↓s_assert, ↓asg_nil, ↓asg_cons, ↓e_int, ↓e_str, ↓e_bool, ↓e_name, ↓e_bin, ↓e_un, ↓e_bool2, ↓e_if, ↓e_cmp, ↓e_call, ↓e_bits, ↓e_sub, ↓e_tup, ↓t_not, ↓t_bool, ↓t_if, ↓t_cmp, ↓t_name, ↓t_call, ↓t_bin, ↓t_const, ↓t_sub, ↓es_nil, ↓es_cons, ↓b_one, ↓b_and, ↓b_or, ↓a_nil_and, ↓a_nil_or, ↓a_and, ↓a_or, ↓c_one, ↓c_more, ↓d_one, ↓d_more, ↓tupk_tup, ↓intk_int, ↓ksq_next, ↓ksq_ret, ↓ksq_brk, ↓ksq_cont, ↓kdf_ret, ↓kdf_next, ↓klp_next, ↓klp_cont, ↓klp_brk, ↓klp_ret, ↓vl_cons, ↓vl_nil, ↓vg_cons, ↓vl0_cons, ↓upk_nil, ↓upk_cons, ↓bv_add, ↓bv_sub, ↓bv_mul, ↓bv_fdiv, ↓bv_mod, ↓bv_shl, ↓bv_shr, ↓bv_and, ↓bv_xor, ↓bv_pow, ↓av_add, ↓av_sub, ↓av_mul, ↓av_shl, ↓av_shr, ↓av_xor, ↓cv_eq, ↓cv_ne, ↓cv_lt, ↓cv_le, ↓cv_gt, ↓cv_ge, ↓cv_str, ↓cv_tup, ↓cv_in, ↓cv_instr, ↓tr_bool, ↓tr_int, ↓uv_neg, ↓uv_not, ↓br_dec, ↓br_tt, ↓br_ff, ↓br_not, ↓sub2_0, ↓sub2_1, ↓sub4_0, ok_name, ok_call, isG_eq, isL_eq, gk_cons, lc_cons, kg, kl, ↓reduceIte, List.all_cons, List.all_nil, List.isEmpty_cons, nstar, nset, nslice, ncall, ncomp, Bool.and_true, Bool.true_and, Bool.not_false, Bool.not_true, and_true, true_and, ne_eq, not_true, not_false_eq_true, List.length_cons, List.length_nil, ite_not, beq_self_eq_true, decide_false, decide_true, Bool.false_eq_true, ↓String.reduceEq, ↓String.reduceNe, Int.reduceLT, Int.reduceLE, Int.reduceGT, Int.reduceGE, Int.reduceEq, Int.reduceNe, Int.reduceNeg, Int.reduceAdd, Int.reduceSub, Int.reduceMul, Int.reduceToNat, Nat.reduceLT, Nat.reduceLeDiff, Nat.reduceAdd, Nat.reduceMul, Nat.reduceEqDiff]
  exact ⟨by decide, known_unorm w, unorm_0 w⟩
theorem known_norm (w : World) : Known (KK w) (Str.ofString "normalize") := (d_normalize w).known

/-! ## floats and their values -/
/-- a positive float of value v, its mantissa of at most p bits -/
def Pos (p : Nat) (v : Rat) (d : D) : Prop := ∃ (m : Nat) (e : Int), NF d 0 m e p ∧ v = m * pw e
theorem nf_pos {d : D} {sg : Int} {m : Nat} {e : Int} {p : Nat} (h : NF d sg m e p) : 0 < m := by have := h.2.1; omega
theorem Pos.pos {p : Nat} {v : Rat} {d : D} (h : Pos p v d) : 0 < v := by
  obtain ⟨m, e, nf, rfl⟩ := h
  exact Rat.mul_pos (Rat.natCast_pos.mpr (nf_pos nf)) (pw_pos e)

end Mine

end
section
open PySem PySem.W PyProof.Rows PySem.Calls
set_option maxRecDepth 100000
namespace Mine
theorem band2 (N : Nat) : Builtin.bitAnd (N : Int) 2 = 0 ↔ N / 2 % 2 = 0 := by
  rw [PyProof.Rows.bitAnd_pp (by omega) (by decide)]
  have ht : N.testBit 1 = decide (N / 2 % 2 = 1) := by rw [Nat.testBit_succ, Nat.testBit_zero]
  have e : ((N : Int).toNat &&& (2 : Int).toNat) = (N &&& 2 ^ 1) := rfl
  rw [e]
  constructor
  · intro h
    have h0 : N &&& 2 ^ 1 = 0 := by omega
    have h1 : (N &&& 2 ^ 1).testBit 1 = false := by rw [h0, Nat.zero_testBit]
    rw [Nat.testBit_and, ht, Nat.testBit_two_pow, decide_eq_true (rfl : 1 = 1), Bool.and_true] at h1
    have h2 := of_decide_eq_false h1
    omega
  · intro h
    have h0 : N &&& 2 ^ 1 = 0 := by
      apply Nat.eq_of_testBit_eq
      intro i
      rw [Nat.testBit_and, Nat.testBit_two_pow, Nat.zero_testBit]
      by_cases hi : 1 = i
      · subst hi; simp [ht, h]
      · simp [hi]
    rw [h0]; rfl
theorem band1 (N : Nat) : Builtin.bitAnd (N : Int) 1 = 0 ↔ N % 2 = 0 := by rw [bitAnd_m1]; omega
/-- the normalized float of the number N·2^e, N not nought -/
def IsF (sg : Int) (N : Nat) (e : Int) (d : D) : Prop := ∃ q t : Nat, N = q * 2 ^ t ∧ q % 2 = 1 ∧ d = fl sg q (e + t) (bl q)

theorem fme_tail (w : World) {sg : Int} {N : Nat} {e : Int} (hN : 0 < N) :
    if Builtin.bitAnd (N : Int) 1 = 0 then
      if Builtin.bitAnd (N : Int) 2 = 0 then
        Known (KK w) (Str.ofString "trailing") ∧ Spec PP w (KK w) 1 (Str.ofString "trailing") [PyData.int N] fun d =>
          augv Operator.RShift (PyData.int N) d fun d_1 =>
            augv Operator.Add (PyData.int e) d fun d_2 =>
              augv Operator.Sub (PyData.int (Builtin.Int.intBits (N : Int))) d fun d => IsF sg N e (PyData.tuple [PyData.int sg, d_1, d_2, d])
      else IsF sg N e (PyData.tuple [PyData.int sg, PyData.int ((N : Int).fdiv (2 ^ 1)), PyData.int (e + 1), PyData.int (Builtin.Int.intBits (N : Int) - 1)])
    else IsF sg N e (PyData.tuple [PyData.int sg, PyData.int N, PyData.int e, PyData.int (Builtin.Int.intBits (N : Int))]) := by
  obtain ⟨q, t, hqt, hq⟩ := odd_part N hN
  have hb : (Builtin.Int.intBits (N : Int)) = bl q + t := by
    show bl N = _
    rw [hqt]; exact bl_shift (by omega)
  split
  · rename_i h1
    rw [band1] at h1
    have ht : t ≠ 0 := by rintro rfl; simp at hqt; omega
    split
    · refine ⟨known_trailing w, ?_⟩
      rw [hb]
      rw [show ((N : Nat) : Int) = ((q * 2 ^ t : Nat) : Int) by rw [← hqt]]
      refine (trailing_spec w hq).mono fun d hd => ?_
      subst hd
      simp only [↓s_nil, ↓s_cons, ↓s_pass, ↓s_brk, ↓s_ret, ↓s_asg, ↓s_tup, ↓s_aug, ↓s_if, ↓s_assert, ↓asg_nil, ↓asg_cons, ↓e_int, ↓e_str, ↓e_bool, ↓e_name, ↓e_bin, ↓e_un, ↓e_bool2, ↓e_if, ↓e_cmp, ↓e_call, ↓e_bits, ↓e_sub, ↓e_tup, ↓t_not, ↓t_bool, ↓t_if, ↓t_cmp, ↓t_name, ↓t_call, ↓t_bin, ↓t_const, ↓t_sub, ↓es_nil, ↓es_cons, ↓b_one, ↓b_and, ↓b_or, ↓a_nil_and, ↓a_nil_or, ↓a_and, ↓a_or, ↓c_one, ↓c_more, ↓d_one, ↓d_more, ↓tupk_tup, ↓intk_int, ↓ksq_next, ↓ksq_ret, ↓ksq_brk, ↓ksq_cont, ↓kdf_ret, ↓kdf_next, ↓klp_next, ↓klp_cont, ↓klp_brk, ↓klp_ret, ↓vl_cons, ↓vl_nil, ↓vg_cons, ↓vl0_cons, ↓upk_nil, ↓upk_cons, ↓bv_add, ↓bv_sub, ↓bv_mul, ↓bv_fdiv, ↓bv_mod, ↓bv_shl, ↓bv_shr, ↓bv_and, ↓bv_xor, ↓bv_pow, ↓av_add, ↓av_sub, ↓av_mul, ↓av_shl, ↓av_shr, ↓av_xor, ↓cv_eq, ↓cv_ne, ↓cv_lt, ↓cv_le, ↓cv_gt, ↓cv_ge, ↓cv_str, ↓cv_tup, ↓cv_in, ↓cv_instr, ↓tr_bool, ↓tr_int, ↓uv_neg, ↓uv_not, ↓br_dec, ↓br_tt, ↓br_ff, ↓br_not, ↓sub2_0, ↓sub2_1, ↓sub4_0, ok_name, ok_call, isG_eq, isL_eq, gk_cons, lc_cons, kg, kl, ↓reduceIte, List.all_cons, List.all_nil, List.isEmpty_cons, nstar, nset, nslice, ncall, ncomp, Bool.and_true, Bool.true_and, Bool.not_false, Bool.not_true, and_true, true_and, ne_eq, not_true, not_false_eq_true, List.length_cons, List.length_nil, ite_not, beq_self_eq_true, decide_false, decide_true, Bool.false_eq_true, ↓String.reduceEq, ↓String.reduceNe, Int.reduceLT, Int.reduceLE, Int.reduceGT, Int.reduceGE, Int.reduceEq, Int.reduceNe, Int.reduceNeg, Int.reduceAdd, Int.reduceSub, Int.reduceMul, Int.reduceToNat, Nat.reduceLT, Nat.reduceLeDiff, Nat.reduceAdd, Nat.reduceMul, Nat.reduceEqDiff]
      refine ⟨by omega, ?_⟩
      have hs : ((q * 2 ^ t : Nat) : Int).fdiv (2 ^ (t : Int).toNat) = (q : Int) := by
        rw [Int.toNat_natCast, two_cast, fdiv_nat, Nat.mul_div_cancel _ (Nat.two_pow_pos t)]
      rw [hs]
      have hz : ((bl q + t : Nat) : Int) - t = bl q := by omega
      rw [hz]
      exact ⟨q, t, hqt, hq, rfl⟩
    · rename_i h2
      rw [band2] at h2
      have ht1 : t = 1 := by
        rcases t with _ | _ | t
        · exact absurd rfl ht
        · rfl
        · exfalso; apply h2
          have : N = q * 2 ^ t * 4 := by rw [hqt, Nat.pow_succ, Nat.pow_succ]; grind
          omega
      subst ht1
      refine ⟨q, 1, hqt, hq, ?_⟩
      rw [hb]
      have hs : ((N : Nat) : Int).fdiv (2 ^ 1) = (q : Int) := by
        rw [two_cast, fdiv_nat, hqt, Nat.mul_div_cancel _ (Nat.two_pow_pos 1)]
      have hz : ((bl q + 1 : Nat) : Int) - 1 = bl q := by omega
      rw [hs, hz]; rfl
  · rename_i h1
    rw [band1] at h1
    have ht : t = 0 := by
      rcases t with _ | t
      · rfl
      · exfalso; rw [Nat.pow_succ, ← Nat.mul_assoc] at hqt; omega
    subst ht
    simp only [Nat.pow_zero, Nat.mul_one] at hqt
    subst hqt
    exact ⟨N, 0, by simp, hq, by simp [fl]; rfl⟩

theorem fme0 (w : World) {N : Nat} {e : Int} {x : String} (hN : 0 < N) : Spec PP w (KK w) 2 "from_man_exp" [.int N, .int e, .int 0, .str x] (IsF 0 N e) := by
  (refine spec_defk (gok _) (d_from_man_exp w) ?_; (conv => arg 7; whnf); (conv => arg 5; whnf); (conv => arg 8; simp only [List.cons_append, List.nil_append, List.zip_cons_cons, List.zip_nil_left, List.zip_nil_right, List.append_nil]); (conv => arg 6; unfold GT))
  simp only [↓s_nil, ↓s_cons, ↓s_pass, ↓s_brk, ↓s_ret, ↓s_asg, ↓s_tup, ↓s_aug, ↓s_if, ↓s_assert, ↓asg_nil, ↓asg_cons, ↓e_int, ↓e_str, ↓e_bool, ↓e_name, ↓e_bin, ↓e_un, ↓e_bool2, ↓e_if, ↓e_cmp, ↓e_call, ↓e_bits, ↓e_sub, ↓e_tup, ↓t_not, ↓t_bool, ↓t_if, ↓t_cmp, ↓t_name, ↓t_call, ↓t_bin, ↓t_const, ↓t_sub, ↓es_nil, ↓es_cons, ↓b_one, ↓b_and, ↓b_or, ↓a_nil_and, ↓a_nil_or, ↓a_and, ↓a_or, ↓c_one, ↓c_more, ↓d_one, ↓d_more, ↓tupk_tup, ↓intk_int, ↓ksq_next, ↓ksq_ret, ↓ksq_brk, ↓ksq_cont, ↓kdf_ret, ↓kdf_next, ↓klp_next, ↓klp_cont, ↓klp_brk, ↓klp_ret, ↓vl_cons, ↓vl_nil, ↓vg_cons, ↓vl0_cons, ↓upk_nil, ↓upk_cons, ↓bv_add, ↓bv_sub, ↓bv_mul, ↓bv_fdiv, ↓bv_mod, ↓bv_shl, ↓bv_shr, ↓bv_and, ↓bv_xor, ↓bv_pow, ↓av_add, ↓av_sub, ↓av_mul, ↓av_shl, ↓av_shr, ↓av_xor, ↓cv_eq, ↓cv_ne, ↓cv_lt, ↓cv_le, ↓cv_gt, ↓cv_ge, ↓cv_str, ↓cv_tup, ↓cv_in, ↓cv_instr, ↓tr_bool, ↓tr_int, ↓uv_neg, ↓uv_not, ↓br_dec, ↓br_tt, ↓br_ff, ↓br_not, ↓sub2_0, ↓sub2_1, ↓sub4_0, ok_name, ok_call, isG_eq, isL_eq, gk_cons, lc_cons, kg, kl, ↓reduceIte, List.all_cons, List.all_nil, List.isEmpty_cons, nstar, nset, nslice, ncall, ncomp, Bool.and_true, Bool.true_and, Bool.not_false, Bool.not_true, and_true, true_and, ne_eq, not_true, not_false_eq_true, List.length_cons, List.length_nil, ite_not, beq_self_eq_true, decide_false, decide_true, Bool.false_eq_true, ↓String.reduceEq, ↓String.reduceNe, Int.reduceLT, Int.reduceLE, Int.reduceGT, Int.reduceGE, Int.reduceEq, Int.reduceNe, Int.reduceNeg, Int.reduceAdd, Int.reduceSub, Int.reduceMul, Int.reduceToNat, Nat.reduceLT, Nat.reduceLeDiff, Nat.reduceAdd, Nat.reduceMul, Nat.reduceEqDiff]
  refine ⟨known_isinstance w, (isinstance_spec w _).mono fun d hd => ?_⟩
  subst hd
  simp only [↓s_nil, ↓s_cons, ↓s_pass, ↓s_brk, ↓s_ret, ↓s_asg, ↓s_tup, ↓s_aug, ↓s_if, ↓s_assert, ↓asg_nil, ↓asg_cons, ↓e_int, ↓e_str, ↓e_bool, ↓e_name, ↓e_bin, ↓e_un, ↓e_bool2, ↓e_if, ↓e_cmp, ↓e_call, ↓e_bits, ↓e_sub, ↓e_tup, ↓t_not, ↓t_bool, ↓t_if, ↓t_cmp, ↓t_name, ↓t_call, ↓t_bin, ↓t_const, ↓t_sub, ↓es_nil, ↓es_cons, ↓b_one, ↓b_and, ↓b_or, ↓a_nil_and, ↓a_nil_or, ↓a_and, ↓a_or, ↓c_one, ↓c_more, ↓d_one, ↓d_more, ↓tupk_tup, ↓intk_int, ↓ksq_next, ↓ksq_ret, ↓ksq_brk, ↓ksq_cont, ↓kdf_ret, ↓kdf_next, ↓klp_next, ↓klp_cont, ↓klp_brk, ↓klp_ret, ↓vl_cons, ↓vl_nil, ↓vg_cons, ↓vl0_cons, ↓upk_nil, ↓upk_cons, ↓bv_add, ↓bv_sub, ↓bv_mul, ↓bv_fdiv, ↓bv_mod, ↓bv_shl, ↓bv_shr, ↓bv_and, ↓bv_xor, ↓bv_pow, ↓av_add, ↓av_sub, ↓av_mul, ↓av_shl, ↓av_shr, ↓av_xor, ↓cv_eq, ↓cv_ne, ↓cv_lt, ↓cv_le, ↓cv_gt, ↓cv_ge, ↓cv_str, ↓cv_tup, ↓cv_in, ↓cv_instr, ↓tr_bool, ↓tr_int, ↓uv_neg, ↓uv_not, ↓br_dec, ↓br_tt, ↓br_ff, ↓br_not, ↓sub2_0, ↓sub2_1, ↓sub4_0, ok_name, ok_call, isG_eq, isL_eq, gk_cons, lc_cons, kg, kl, ↓reduceIte, List.all_cons, List.all_nil, List.isEmpty_cons, nstar, nset, nslice, ncall, ncomp, Bool.and_true, Bool.true_and, Bool.not_false, Bool.not_true, and_true, true_and, ne_eq, not_true, not_false_eq_true, List.length_cons, List.length_nil, ite_not, beq_self_eq_true, decide_false, decide_true, Bool.false_eq_true, ↓String.reduceEq, ↓String.reduceNe, Int.reduceLT, Int.reduceLE, Int.reduceGT, Int.reduceGE, Int.reduceEq, Int.reduceNe, Int.reduceNeg, Int.reduceAdd, Int.reduceSub, Int.reduceMul, Int.reduceToNat, Nat.reduceLT, Nat.reduceLeDiff, Nat.reduceAdd, Nat.reduceMul, Nat.reduceEqDiff]
  rw [if_neg (by omega), if_neg (by omega)]
  exact fme_tail w hN
theorem fme1 (w : World) {N : Nat} {e : Int} {x : String} (hN : 0 < N) : Spec PP w (KK w) 2 "from_man_exp" [.int (-(N : Int)), .int e, .int 0, .str x] (IsF 1 N e) := by
  (refine spec_defk (gok _) (d_from_man_exp w) ?_; (conv => arg 7; whnf); (conv => arg 5; whnf); (conv => arg 8; simp only [List.cons_append, List.nil_append, List.zip_cons_cons, List.zip_nil_left, List.zip_nil_right, List.append_nil]); (conv => arg 6; unfold GT))
  simp only [↓s_nil, ↓s_cons, ↓s_pass, ↓s_brk, ↓s_ret, ↓s_asg, ↓s_tup, ↓s_aug, ↓s_if, ↓s_assert, ↓asg_nil, ↓asg_cons, ↓e_int, ↓e_str, ↓e_bool, ↓e_name, ↓e_bin, ↓e_un, ↓e_bool2, ↓e_if, ↓e_cmp, ↓e_call, ↓e_bits, ↓e_sub, ↓e_tup, ↓t_not, ↓t_bool, ↓t_if, ↓t_cmp, ↓t_name, ↓t_call, ↓t_bin, ↓t_const, ↓t_sub, ↓es_nil, ↓es_cons, ↓b_one, ↓b_and, ↓b_or, ↓a_nil_and, ↓a_nil_or, ↓a_and, ↓a_or, ↓c_one, ↓c_more, ↓d_one, ↓d_more, ↓tupk_tup, ↓intk_int, ↓ksq_next, ↓ksq_ret, ↓ksq_brk, ↓ksq_cont, ↓kdf_ret, ↓kdf_next, ↓klp_next, ↓klp_cont, ↓klp_brk, ↓klp_ret, ↓vl_cons, ↓vl_nil, ↓vg_cons, ↓vl0_cons, ↓upk_nil, ↓upk_cons, ↓bv_add, ↓bv_sub, ↓bv_mul, ↓bv_fdiv, ↓bv_mod, ↓bv_shl, ↓bv_shr, ↓bv_and, ↓bv_xor, ↓bv_pow, ↓av_add, ↓av_sub, ↓av_mul, ↓av_shl, ↓av_shr, ↓av_xor, ↓cv_eq, ↓cv_ne, ↓cv_lt, ↓cv_le, ↓cv_gt, ↓cv_ge, ↓cv_str, ↓cv_tup, ↓cv_in, ↓cv_instr, ↓tr_bool, ↓tr_int, ↓uv_neg, ↓uv_not, ↓br_dec, ↓br_tt, ↓br_ff, ↓br_not, ↓sub2_0, ↓sub2_1, ↓sub4_0, ok_name, ok_call, isG_eq, isL_eq, gk_cons, lc_cons, kg, kl, ↓reduceIte, List.all_cons, List.all_nil, List.isEmpty_cons, nstar, nset, nslice, ncall, ncomp, Bool.and_true, Bool.true_and, Bool.not_false, Bool.not_true, and_true, true_and, ne_eq, not_true, not_false_eq_true, List.length_cons, List.length_nil, ite_not, beq_self_eq_true, decide_false, decide_true, Bool.false_eq_true, ↓String.reduceEq, ↓String.reduceNe, Int.reduceLT, Int.reduceLE, Int.reduceGT, Int.reduceGE, Int.reduceEq, Int.reduceNe, Int.reduceNeg, Int.reduceAdd, Int.reduceSub, Int.reduceMul, Int.reduceToNat, Nat.reduceLT, Nat.reduceLeDiff, Nat.reduceAdd, Nat.reduceMul, Nat.reduceEqDiff]
  refine ⟨known_isinstance w, (isinstance_spec w _).mono fun d hd => ?_⟩
  subst hd
  simp only [↓s_nil, ↓s_cons, ↓s_pass, ↓s_brk, ↓s_ret, ↓s_asg, ↓s_tup, ↓s_aug, ↓s_if, ↓s_assert, ↓asg_nil, ↓asg_cons, ↓e_int, ↓e_str, ↓e_bool, ↓e_name, ↓e_bin, ↓e_un, ↓e_bool2, ↓e_if, ↓e_cmp, ↓e_call, ↓e_bits, ↓e_sub, ↓e_tup, ↓t_not, ↓t_bool, ↓t_if, ↓t_cmp, ↓t_name, ↓t_call, ↓t_bin, ↓t_const, ↓t_sub, ↓es_nil, ↓es_cons, ↓b_one, ↓b_and, ↓b_or, ↓a_nil_and, ↓a_nil_or, ↓a_and, ↓a_or, ↓c_one, ↓c_more, ↓d_one, ↓d_more, ↓tupk_tup, ↓intk_int, ↓ksq_next, ↓ksq_ret, ↓ksq_brk, ↓ksq_cont, ↓kdf_ret, ↓kdf_next, ↓klp_next, ↓klp_cont, ↓klp_brk, ↓klp_ret, ↓vl_cons, ↓vl_nil, ↓vg_cons, ↓vl0_cons, ↓upk_nil, ↓upk_cons, ↓bv_add, ↓bv_sub, ↓bv_mul, ↓bv_fdiv, ↓bv_mod, ↓bv_shl, ↓bv_shr, ↓bv_and, ↓bv_xor, ↓bv_pow, ↓av_add, ↓av_sub, ↓av_mul, ↓av_shl, ↓av_shr, ↓av_xor, ↓cv_eq, ↓cv_ne, ↓cv_lt, ↓cv_le, ↓cv_gt, ↓cv_ge, ↓cv_str, ↓cv_tup, ↓cv_in, ↓cv_instr, ↓tr_bool, ↓tr_int, ↓uv_neg, ↓uv_not, ↓br_dec, ↓br_tt, ↓br_ff, ↓br_not, ↓sub2_0, ↓sub2_1, ↓sub4_0, ok_name, ok_call, isG_eq, isL_eq, gk_cons, lc_cons, kg, kl, ↓reduceIte, List.all_cons, List.all_nil, List.isEmpty_cons, nstar, nset, nslice, ncall, ncomp, Bool.and_true, Bool.true_and, Bool.not_false, Bool.not_true, and_true, true_and, ne_eq, not_true, not_false_eq_true, List.length_cons, List.length_nil, ite_not, beq_self_eq_true, decide_false, decide_true, Bool.false_eq_true, ↓String.reduceEq, ↓String.reduceNe, Int.reduceLT, Int.reduceLE, Int.reduceGT, Int.reduceGE, Int.reduceEq, Int.reduceNe, Int.reduceNeg, Int.reduceAdd, Int.reduceSub, Int.reduceMul, Int.reduceToNat, Nat.reduceLT, Nat.reduceLeDiff, Nat.reduceAdd, Nat.reduceMul, Nat.reduceEqDiff]
  simp only [Int.neg_neg]
  rw [if_pos (by omega), if_neg (by omega)]
  exact fme_tail w hN
theorem fmep (w : World) {N p : Nat} {e : Int} {x : String} {dn : Bool} (M : Mode w x 0 dn) (hN : 0 < N) (hp : 1 ≤ p) : Spec PP w (KK w) 4 "from_man_exp" [.int N, .int e, .int p, .str x] (Rounded 0 p dn (N * pw e)) := by
  (refine spec_defk (gok _) (d_from_man_exp w) ?_; (conv => arg 7; whnf); (conv => arg 5; whnf); (conv => arg 8; simp only [List.cons_append, List.nil_append, List.zip_cons_cons, List.zip_nil_left, List.zip_nil_right, List.append_nil]); (conv => arg 6; unfold GT))
  simp only [↓s_nil, ↓s_cons, ↓s_pass, ↓s_brk, ↓s_ret, ↓s_asg, ↓s_tup, ↓s_aug, ↓s_if, ↓s_assert, ↓asg_nil, ↓asg_cons, ↓e_int, ↓e_str, ↓e_bool, ↓e_name, ↓e_bin, ↓e_un, ↓e_bool2, ↓e_if, ↓e_cmp, ↓e_call, ↓e_bits, ↓e_sub, ↓e_tup, ↓t_not, ↓t_bool, ↓t_if, ↓t_cmp, ↓t_name, ↓t_call, ↓t_bin, ↓t_const, ↓t_sub, ↓es_nil, ↓es_cons, ↓b_one, ↓b_and, ↓b_or, ↓a_nil_and, ↓a_nil_or, ↓a_and, ↓a_or, ↓c_one, ↓c_more, ↓d_one, ↓d_more, ↓tupk_tup, ↓intk_int, ↓ksq_next, ↓ksq_ret, ↓ksq_brk, ↓ksq_cont, ↓kdf_ret, ↓kdf_next, ↓klp_next, ↓klp_cont, ↓klp_brk, ↓klp_ret, ↓vl_cons, ↓vl_nil, ↓vg_cons, ↓vl0_cons, ↓upk_nil, ↓upk_cons, ↓bv_add, ↓bv_sub, ↓bv_mul, ↓bv_fdiv, ↓bv_mod, ↓bv_shl, ↓bv_shr, ↓bv_and, ↓bv_xor, ↓bv_pow, ↓av_add, ↓av_sub, ↓av_mul, ↓av_shl, ↓av_shr, ↓av_xor, ↓cv_eq, ↓cv_ne, ↓cv_lt, ↓cv_le, ↓cv_gt, ↓cv_ge, ↓cv_str, ↓cv_tup, ↓cv_in, ↓cv_instr, ↓tr_bool, ↓tr_int, ↓uv_neg, ↓uv_not, ↓br_dec, ↓br_tt, ↓br_ff, ↓br_not, ↓sub2_0, ↓sub2_1, ↓sub4_0, ok_name, ok_call, isG_eq, isL_eq, gk_cons, lc_cons, kg, kl, ↓reduceIte, List.all_cons, List.all_nil, List.isEmpty_cons, nstar, nset, nslice, ncall, ncomp, Bool.and_true, Bool.true_and, Bool.not_false, Bool.not_true, and_true, true_and, ne_eq, not_true, not_false_eq_true, List.length_cons, List.length_nil, ite_not, beq_self_eq_true, decide_false, decide_true, Bool.false_eq_true, ↓String.reduceEq, ↓String.reduceNe, Int.reduceLT, Int.reduceLE, Int.reduceGT, Int.reduceGE, Int.reduceEq, Int.reduceNe, Int.reduceNeg, Int.reduceAdd, Int.reduceSub, Int.reduceMul, Int.reduceToNat, Nat.reduceLT, Nat.reduceLeDiff, Nat.reduceAdd, Nat.reduceMul, Nat.reduceEqDiff]
  refine ⟨known_isinstance w, (isinstance_spec w _).mono fun d hd => ?_⟩
  subst hd
  simp only [↓s_nil, ↓s_cons, ↓s_pass, ↓s_brk, ↓s_ret, ↓s_asg, ↓s_tup, ↓s_aug, ↓s_if, ↓s_assert, ↓asg_nil, ↓asg_cons, ↓e_int, ↓e_str, ↓e_bool, ↓e_name, ↓e_bin, ↓e_un, ↓e_bool2, ↓e_if, ↓e_cmp, ↓e_call, ↓e_bits, ↓e_sub, ↓e_tup, ↓t_not, ↓t_bool, ↓t_if, ↓t_cmp, ↓t_name, ↓t_call, ↓t_bin, ↓t_const, ↓t_sub, ↓es_nil, ↓es_cons, ↓b_one, ↓b_and, ↓b_or, ↓a_nil_and, ↓a_nil_or, ↓a_and, ↓a_or, ↓c_one, ↓c_more, ↓d_one, ↓d_more, ↓tupk_tup, ↓intk_int, ↓ksq_next, ↓ksq_ret, ↓ksq_brk, ↓ksq_cont, ↓kdf_ret, ↓kdf_next, ↓klp_next, ↓klp_cont, ↓klp_brk, ↓klp_ret, ↓vl_cons, ↓vl_nil, ↓vg_cons, ↓vl0_cons, ↓upk_nil, ↓upk_cons, ↓bv_add, ↓bv_sub, ↓bv_mul, ↓bv_fdiv, ↓bv_mod, ↓bv_shl, ↓bv_shr, ↓bv_and, ↓bv_xor, ↓bv_pow, ↓av_add, ↓av_sub, ↓av_mul, ↓av_shl, ↓av_shr, ↓av_xor, ↓cv_eq, ↓cv_ne, ↓cv_lt, ↓cv_le, ↓cv_gt, ↓cv_ge, ↓cv_str, ↓cv_tup, ↓cv_in, ↓cv_instr, ↓tr_bool, ↓tr_int, ↓uv_neg, ↓uv_not, ↓br_dec, ↓br_tt, ↓br_ff, ↓br_not, ↓sub2_0, ↓sub2_1, ↓sub4_0, ok_name, ok_call, isG_eq, isL_eq, gk_cons, lc_cons, kg, kl, ↓reduceIte, List.all_cons, List.all_nil, List.isEmpty_cons, nstar, nset, nslice, ncall, ncomp, Bool.and_true, Bool.true_and, Bool.not_false, Bool.not_true, and_true, true_and, ne_eq, not_true, not_false_eq_true, List.length_cons, List.length_nil, ite_not, beq_self_eq_true, decide_false, decide_true, Bool.false_eq_true, ↓String.reduceEq, ↓String.reduceNe, Int.reduceLT, Int.reduceLE, Int.reduceGT, Int.reduceGE, Int.reduceEq, Int.reduceNe, Int.reduceNeg, Int.reduceAdd, Int.reduceSub, Int.reduceMul, Int.reduceToNat, Nat.reduceLT, Nat.reduceLeDiff, Nat.reduceAdd, Nat.reduceMul, Nat.reduceEqDiff]
  rw [if_neg (by omega), if_neg (by omega)]
  exact ⟨known_norm w, norm_m w M hN hp⟩
theorem known_fme (w : World) : Known (KK w) (Str.ofString "from_man_exp") := (d_from_man_exp w).known
theorem known_from_int (w : World) : Known (KK w) (Str.ofString "from_int") := (d_from_int w).known
theorem from_int_pos (w : World) {N : Nat} (hN : 0 < N) : Spec PP w (KK w) 3 "from_int" [.int N] (IsF 0 N 0) := by
  (refine spec_defk (gok _) (d_from_int w) ?_; (conv => arg 7; whnf); (conv => arg 5; whnf); (conv => arg 8; simp only [List.cons_append, List.nil_append, List.zip_cons_cons, List.zip_nil_left, List.zip_nil_right, List.append_nil]); (conv => arg 6; unfold GT))
  simp only [↓s_nil, ↓s_cons, ↓s_pass, ↓s_brk, ↓s_ret, ↓s_asg, ↓s_tup, ↓s_aug, ↓s_if, ↓s_assert, ↓asg_nil, ↓asg_cons, ↓e_int, ↓e_str, ↓e_bool, ↓e_name, ↓e_bin, ↓e_un, ↓e_bool2, ↓e_if, ↓e_cmp, ↓e_call, ↓e_bits, ↓e_sub, ↓e_tup, ↓t_not, ↓t_bool, ↓t_if, ↓t_cmp, ↓t_name, ↓t_call, ↓t_bin, ↓t_const, ↓t_sub, ↓es_nil, ↓es_cons, ↓b_one, ↓b_and, ↓b_or, ↓a_nil_and, ↓a_nil_or, ↓a_and, ↓a_or, ↓c_one, ↓c_more, ↓d_one, ↓d_more, ↓tupk_tup, ↓intk_int, ↓ksq_next, ↓ksq_ret, ↓ksq_brk, ↓ksq_cont, ↓kdf_ret, ↓kdf_next, ↓klp_next, ↓klp_cont, ↓klp_brk, ↓klp_ret, ↓vl_cons, ↓vl_nil, ↓vg_cons, ↓vl0_cons, ↓upk_nil, ↓upk_cons, ↓bv_add, ↓bv_sub, ↓bv_mul, ↓bv_fdiv, ↓bv_mod, ↓bv_shl, ↓bv_shr, ↓bv_and, ↓bv_xor, ↓bv_pow, ↓av_add, ↓av_sub, ↓av_mul, ↓av_shl, ↓av_shr, ↓av_xor, ↓cv_eq, ↓cv_ne, ↓cv_lt, ↓cv_le, ↓cv_gt, ↓cv_ge, ↓cv_str, ↓cv_tup, ↓cv_in, ↓cv_instr, ↓tr_bool, ↓tr_int, ↓uv_neg, ↓uv_not, ↓br_dec, ↓br_tt, ↓br_ff, ↓br_not, ↓sub2_0, ↓sub2_1, ↓sub4_0, ok_name, ok_call, isG_eq, isL_eq, gk_cons, lc_cons, kg, kl, ↓reduceIte, List.all_cons, List.all_nil, List.isEmpty_cons, nstar, nset, nslice, ncall, ncomp, Bool.and_true, Bool.true_and, Bool.not_false, Bool.not_true, and_true, true_and, ne_eq, not_true, not_false_eq_true, List.length_cons, List.length_nil, ite_not, beq_self_eq_true, decide_false, decide_true, Bool.false_eq_true, ↓String.reduceEq, ↓String.reduceNe, Int.reduceLT, Int.reduceLE, Int.reduceGT, Int.reduceGE, Int.reduceEq, Int.reduceNe, Int.reduceNeg, Int.reduceAdd, Int.reduceSub, Int.reduceMul, Int.reduceToNat, Nat.reduceLT, Nat.reduceLeDiff, Nat.reduceAdd, Nat.reduceMul, Nat.reduceEqDiff]
  refine ⟨known_fme w, known_int w, (int_spec w _).mono fun d hd => ?_⟩
  subst hd
  exact fme0 w hN
theorem from_int_neg (w : World) {N : Nat} (hN : 0 < N) : Spec PP w (KK w) 3 "from_int" [.int (-(N : Int))] (IsF 1 N 0) := by
  (refine spec_defk (gok _) (d_from_int w) ?_; (conv => arg 7; whnf); (conv => arg 5; whnf); (conv => arg 8; simp only [List.cons_append, List.nil_append, List.zip_cons_cons, List.zip_nil_left, List.zip_nil_right, List.append_nil]); (conv => arg 6; unfold GT))
  simp only [↓s_nil, ↓s_cons, ↓s_pass, ↓s_brk, ↓s_ret, ↓s_asg, ↓s_tup, ↓s_aug, ↓s_if, ↓s_assert, ↓asg_nil, ↓asg_cons, ↓e_int, ↓e_str, ↓e_bool, ↓e_name, ↓e_bin, ↓e_un, ↓e_bool2, ↓e_if, ↓e_cmp, ↓e_call, ↓e_bits, ↓e_sub, ↓e_tup, ↓t_not, ↓t_bool, ↓t_if, ↓t_cmp, ↓t_name, ↓t_call, ↓t_bin, ↓t_const, ↓t_sub, ↓es_nil, ↓es_cons, ↓b_one, ↓b_and, ↓b_or, ↓a_nil_and, ↓a_nil_or, ↓a_and, ↓a_or, ↓c_one, ↓c_more, ↓d_one, ↓d_more, ↓tupk_tup, ↓intk_int, ↓ksq_next, ↓ksq_ret, ↓ksq_brk, ↓ksq_cont, ↓kdf_ret, ↓kdf_next, ↓klp_next, ↓klp_cont, ↓klp_brk, ↓klp_ret, ↓vl_cons, ↓vl_nil, ↓vg_cons, ↓vl0_cons, ↓upk_nil, ↓upk_cons, ↓bv_add, ↓bv_sub, ↓bv_mul, ↓bv_fdiv, ↓bv_mod, ↓bv_shl, ↓bv_shr, ↓bv_and, ↓bv_xor, ↓bv_pow, ↓av_add, ↓av_sub, ↓av_mul, ↓av_shl, ↓av_shr, ↓av_xor, ↓cv_eq, ↓cv_ne, ↓cv_lt, ↓cv_le, ↓cv_gt, ↓cv_ge, ↓cv_str, ↓cv_tup, ↓cv_in, ↓cv_instr, ↓tr_bool, ↓tr_int, ↓uv_neg, ↓uv_not, ↓br_dec, ↓br_tt, ↓br_ff, ↓br_not, ↓sub2_0, ↓sub2_1, ↓sub4_0, ok_name, ok_call, isG_eq, isL_eq, gk_cons, lc_cons, kg, kl, ↓reduceIte, List.all_cons, List.all_nil, List.isEmpty_cons, nstar, nset, nslice, ncall, ncomp, Bool.and_true, Bool.true_and, Bool.not_false, Bool.not_true, and_true, true_and, ne_eq, not_true, not_false_eq_true, List.length_cons, List.length_nil, ite_not, beq_self_eq_true, decide_false, decide_true, Bool.false_eq_true, ↓String.reduceEq, ↓String.reduceNe, Int.reduceLT, Int.reduceLE, Int.reduceGT, Int.reduceGE, Int.reduceEq, Int.reduceNe, Int.reduceNeg, Int.reduceAdd, Int.reduceSub, Int.reduceMul, Int.reduceToNat, Nat.reduceLT, Nat.reduceLeDiff, Nat.reduceAdd, Nat.reduceMul, Nat.reduceEqDiff]
  refine ⟨known_fme w, known_int w, (int_spec w _).mono fun d hd => ?_⟩
  subst hd
  exact fme1 w hN
end Mine

end
section
open PySem PySem.W PyProof.Rows PySem.Calls
set_option maxRecDepth 100000
namespace Mine
/-- the float of a whole number from nought on -/
def IntF (z : Nat) (d : D) : Prop := (z = 0 ∧ d = fl 0 0 0 0) ∨ (0 < z ∧ IsF 0 z 0 d)

theorem known_pos (w : World) : Known (KK w) (Str.ofString "mpf_pos") := (d_mpf_pos w).known
theorem pos_spec (w : World) {sg : Int} {x : String} {dn : Bool} {N : Nat} {e : Int} {p : Nat} (M : Mode w x sg dn) (hN : 0 < N) (hp : 1 ≤ p) :
    Spec PP w (KK w) 4 "mpf_pos" [fl sg N e (bl N), .int p, .str x] (Rounded sg p dn (N * pw e)) := by
  (refine spec_defk (gok _) (d_mpf_pos w) ?_; (conv => arg 7; whnf); (conv => arg 5; whnf); (conv => arg 8; simp only [List.cons_append, List.nil_append, List.zip_cons_cons, List.zip_nil_left, List.zip_nil_right, List.append_nil]); (conv => arg 6; unfold GT))
  unfold fl
  simp only [↓s_nil, ↓s_cons, ↓s_pass, ↓s_brk, ↓s_ret, ↓s_asg, ↓s_tup, ↓s_aug, ↓s_if, ↓s_assert, ↓asg_nil, ↓asg_cons, ↓e_int, ↓e_str, ↓e_bool, ↓e_name, ↓e_bin, ↓e_un, ↓e_bool2, ↓e_if, ↓e_cmp, ↓e_call, ↓e_bits, ↓e_sub, ↓e_tup, ↓t_not, ↓t_bool, ↓t_if, ↓t_cmp, ↓t_name, ↓t_call, ↓t_bin, ↓t_const, ↓t_sub, ↓es_nil, ↓es_cons, ↓b_one, ↓b_and, ↓b_or, ↓a_nil_and, ↓a_nil_or, ↓a_and, ↓a_or, ↓c_one, ↓c_more, ↓d_one, ↓d_more, ↓tupk_tup, ↓intk_int, ↓ksq_next, ↓ksq_ret, ↓ksq_brk, ↓ksq_cont, ↓kdf_ret, ↓kdf_next, ↓klp_next, ↓klp_cont, ↓klp_brk, ↓klp_ret, ↓vl_cons, ↓vl_nil, ↓vg_cons, ↓vl0_cons, ↓upk_nil, ↓upk_cons, ↓bv_add, ↓bv_sub, ↓bv_mul, ↓bv_fdiv, ↓bv_mod, ↓bv_shl, ↓bv_shr, ↓bv_and, ↓bv_xor, ↓bv_pow, ↓av_add, ↓av_sub, ↓av_mul, ↓av_shl, ↓av_shr, ↓av_xor, ↓cv_eq, ↓cv_ne, ↓cv_lt, ↓cv_le, ↓cv_gt, ↓cv_ge, ↓cv_str, ↓cv_tup, ↓cv_in, ↓cv_instr, ↓tr_bool, ↓tr_int, ↓uv_neg, ↓uv_not, ↓br_dec, ↓br_tt, ↓br_ff, ↓br_not, ↓sub2_0, ↓sub2_1, ↓sub4_0, ok_name, ok_call, isG_eq, isL_eq, gk_cons, lc_cons, kg, kl, ↓reduceIte, List.all_cons, List.all_nil, List.isEmpty_cons, nstar, nset, nslice, ncall, ncomp, Bool.and_true, Bool.true_and, Bool.not_false, Bool.not_true, and_true, true_and, ne_eq, not_true, not_false_eq_true, List.length_cons, List.length_nil, ite_not, beq_self_eq_true, decide_false, decide_true, Bool.false_eq_true, ↓String.reduceEq, ↓String.reduceNe, Int.reduceLT, Int.reduceLE, Int.reduceGT, Int.reduceGE, Int.reduceEq, Int.reduceNe, Int.reduceNeg, Int.reduceAdd, Int.reduceSub, Int.reduceMul, Int.reduceToNat, Nat.reduceLT, Nat.reduceLeDiff, Nat.reduceAdd, Nat.reduceMul, Nat.reduceEqDiff]
  rw [if_neg (by omega), if_neg (by omega)]
  exact ⟨known_norm w, norm_m w M hN hp⟩

/-- the whole part of a rounded number of as many bits as its whole part has -/
theorem whole_part {p : Nat} {v : Rat} {M : Nat} {E : Int} (hp : 1 ≤ p) (R : RDn p v (M * pw E)) (hb : bl M ≤ p) (ho : M % 2 = 1) (h1 : pw ((p : Int) - 1) ≤ v) (h2 : v < pw p) :
    ∃ t : Nat, E = t ∧ ((M * 2 ^ t : Nat) : Rat) ≤ v ∧ v < ((M * 2 ^ t : Nat) : Rat) + 1 := by
  have hM : 0 < M := by omega
  have hE : 0 ≤ E := by
    rcases (by omega : E < 0 ∨ 0 ≤ E) with h | h
    · exfalso
      have a1 := R.top 1 ((p : Int) - 1) (Nat.one_lt_two_pow (by omega)) (by rw [show ((1 : Nat) : Rat) = 1 from rfl, Rat.one_mul]; exact h1)
      rw [lift (c := 1) (q := E) (by omega), cle] at a1
      have a2 : 2 ^ p ≤ 2 ^ ((p : Int) - 1 - E).toNat := Nat.pow_le_pow_right (by decide) (by omega)
      have a3 := bl_le.mp hb
      omega
    · exact h
  obtain ⟨t, rfl⟩ := Int.eq_ofNat_of_zero_le hE
  refine ⟨t, rfl, ?_, ?_⟩
  · have := R.le
    rw [pw_nat] at this
    rw [Rat.natCast_mul]; exact this
  · -- the floor of v is a whole number of p bits
    have hv0 : 0 ≤ v := Rat.le_trans (Rat.le_of_lt (pw_pos _)) h1
    have f1 : (v.floor : Rat) ≤ v := Rat.floor_le v
    have f2 : v < ((v.floor + 1 : Int) : Rat) := Rat.lt_floor_add_one v
    have f0 : 0 ≤ v.floor := Rat.le_floor_iff.mpr hv0
    obtain ⟨z, hz⟩ := Int.eq_ofNat_of_zero_le f0
    rw [hz] at f1 f2
    have hz1 : z < 2 ^ p := by
      have : (z : Rat) < ((2 ^ p : Nat) : Rat) := by
        rw [← pw_nat]
        have e : ((z : Int) : Rat) = (z : Rat) := rfl
        rw [e] at f1
        grind
      exact_mod_cast this
    have a1 := R.top z 0 hz1 (by rw [pw_zero, Rat.mul_one]; exact f1)
    rw [pw_zero, Rat.mul_one, pw_nat, ← Rat.natCast_mul] at a1
    have e : ((z + 1 : Int) : Rat) = (z : Rat) + 1 := by push_cast; rfl
    rw [e] at f2
    grind

theorem pw_le_of_bits {m : Nat} {e : Int} (hm : 0 < m) : pw (e + bl m - 1) ≤ m * pw e := by
  have h := bl_lo hm
  have hb := bl_ge1 hm
  have e1 : e + bl m - 1 = e + ((bl m - 1 : Nat) : Int) := by omega
  have h2 := (cle (e := e)).mpr h
  rw [e1, pw_add, pw_nat]
  grind
theorem lt_pw_of_bits {m : Nat} {e : Int} : m * pw e < pw (e + bl m) := by
  have h2 := (clt (e := e)).mpr (bl_up m)
  rw [pw_add, pw_nat]
  grind
/-- d' is the whole part of v -/
def Whole (v : Rat) (d' : D) : Prop := ∃ z : Nat, (z : Rat) ≤ v ∧ v < (z : Rat) + 1 ∧ IntF z d'
theorem known_round_int (w : World) : Known (KK w) (Str.ofString "mpf_round_int") := (d_mpf_round_int w).known
theorem round_int_spec (w : World) {m : Nat} {e : Int} (ho : m % 2 = 1) : Spec PP w (KK w) 5 "mpf_round_int" [fl 0 m e (bl m), .str "f"] (Whole (m * pw e)) := by
  have hm : 0 < m := by omega
  (refine spec_defk (gok _) (d_mpf_round_int w) ?_; (conv => arg 7; whnf); (conv => arg 5; whnf); (conv => arg 8; simp only [List.cons_append, List.nil_append, List.zip_cons_cons, List.zip_nil_left, List.zip_nil_right, List.append_nil]); (conv => arg 6; unfold GT))
  unfold fl
  simp only [↓s_nil, ↓s_cons, ↓s_pass, ↓s_brk, ↓s_ret, ↓s_asg, ↓s_tup, ↓s_aug, ↓s_if, ↓s_assert, ↓asg_nil, ↓asg_cons, ↓e_int, ↓e_str, ↓e_bool, ↓e_name, ↓e_bin, ↓e_un, ↓e_bool2, ↓e_if, ↓e_cmp, ↓e_call, ↓e_bits, ↓e_sub, ↓e_tup, ↓t_not, ↓t_bool, ↓t_if, ↓t_cmp, ↓t_name, ↓t_call, ↓t_bin, ↓t_const, ↓t_sub, ↓es_nil, ↓es_cons, ↓b_one, ↓b_and, ↓b_or, ↓a_nil_and, ↓a_nil_or, ↓a_and, ↓a_or, ↓c_one, ↓c_more, ↓d_one, ↓d_more, ↓tupk_tup, ↓intk_int, ↓ksq_next, ↓ksq_ret, ↓ksq_brk, ↓ksq_cont, ↓kdf_ret, ↓kdf_next, ↓klp_next, ↓klp_cont, ↓klp_brk, ↓klp_ret, ↓vl_cons, ↓vl_nil, ↓vg_cons, ↓vl0_cons, ↓upk_nil, ↓upk_cons, ↓bv_add, ↓bv_sub, ↓bv_mul, ↓bv_fdiv, ↓bv_mod, ↓bv_shl, ↓bv_shr, ↓bv_and, ↓bv_xor, ↓bv_pow, ↓av_add, ↓av_sub, ↓av_mul, ↓av_shl, ↓av_shr, ↓av_xor, ↓cv_eq, ↓cv_ne, ↓cv_lt, ↓cv_le, ↓cv_gt, ↓cv_ge, ↓cv_str, ↓cv_tup, ↓cv_in, ↓cv_instr, ↓tr_bool, ↓tr_int, ↓uv_neg, ↓uv_not, ↓br_dec, ↓br_tt, ↓br_ff, ↓br_not, ↓sub2_0, ↓sub2_1, ↓sub4_0, ok_name, ok_call, isG_eq, isL_eq, gk_cons, lc_cons, kg, kl, ↓reduceIte, List.all_cons, List.all_nil, List.isEmpty_cons, nstar, nset, nslice, ncall, ncomp, Bool.and_true, Bool.true_and, Bool.not_false, Bool.not_true, and_true, true_and, ne_eq, not_true, not_false_eq_true, List.length_cons, List.length_nil, ite_not, beq_self_eq_true, decide_false, decide_true, Bool.false_eq_true, ↓String.reduceEq, ↓String.reduceNe, Int.reduceLT, Int.reduceLE, Int.reduceGT, Int.reduceGE, Int.reduceEq, Int.reduceNe, Int.reduceNeg, Int.reduceAdd, Int.reduceSub, Int.reduceMul, Int.reduceToNat, Nat.reduceLT, Nat.reduceLeDiff, Nat.reduceAdd, Nat.reduceMul, Nat.reduceEqDiff]
  rw [if_neg (by omega)]
  split
  · rename_i h
    obtain ⟨t, rfl⟩ := Int.eq_ofNat_of_zero_le h
    refine ⟨m * 2 ^ t, ?_, ?_, .inr ⟨Nat.mul_pos hm (Nat.two_pow_pos t), m, t, rfl, ho, by rw [Int.zero_add]; rfl⟩⟩
    · rw [pw_nat, Rat.natCast_mul]; exact Rat.le_refl
    · rw [pw_nat, Rat.natCast_mul]; grind
  · rename_i h
    split
    · rename_i h1
      refine ⟨0, ?_, ?_, .inl ⟨rfl, rfl⟩⟩
      · exact Rat.mul_nonneg Rat.natCast_nonneg (Rat.le_of_lt (pw_pos e))
      · have a1 := lt_pw_of_bits (m := m) (e := e)
        have a2 := pw_mono (show e + bl m ≤ 0 by omega)
        rw [pw_zero] at a2
        have : ((0 : Nat) : Rat) = 0 := rfl
        grind
    · rename_i h1
      refine ⟨known_pos w, known_min w, (min_spec w _ _).mono fun d hd => ?_⟩
      subst hd
      have hp : (if e + (bl m : Int) < (bl m : Int) then e + (bl m : Int) else (bl m : Int)) = (((e + bl m).toNat : Nat) : Int) := by
        rw [if_pos (by omega)]; omega
      rw [hp]
      refine (pos_spec w (mode_f0 w) hm (by omega)).mono fun d hd => ?_
      obtain ⟨M, E, nf, R⟩ := hd
      obtain ⟨t, rfl, b1, b2⟩ := whole_part (by omega) R nf.2.2 nf.2.1
        (by rw [show (((e + bl m).toNat : Nat) : Int) - 1 = e + bl m - 1 by omega]; exact pw_le_of_bits hm)
        (by rw [show (((e + bl m).toNat : Nat) : Int) = e + bl m by omega]; exact lt_pw_of_bits)
      exact ⟨M * 2 ^ t, b1, b2, .inr ⟨Nat.mul_pos (nf_pos nf) (Nat.two_pow_pos t), M, t, rfl, nf.2.1, by rw [nf.1, Int.zero_add]⟩⟩
theorem known_floor (w : World) : Known (KK w) (Str.ofString "mpf_floor") := (d_mpf_floor w).known
theorem floor_spec (w : World) {p : Nat} {v : Rat} {d : D} (h : Pos p v d) : Spec PP w (KK w) 6 "mpf_floor" [d] (Whole v) := by
  obtain ⟨m, e, nf, rfl⟩ := h
  obtain ⟨rfl, ho, _⟩ := nf
  (refine spec_defk (gok _) (d_mpf_floor w) ?_; (conv => arg 7; whnf); (conv => arg 5; whnf); (conv => arg 8; simp only [List.cons_append, List.nil_append, List.zip_cons_cons, List.zip_nil_left, List.zip_nil_right, List.append_nil]); (conv => arg 6; unfold GT))
  simp only [↓s_nil, ↓s_cons, ↓s_pass, ↓s_brk, ↓s_ret, ↓s_asg, ↓s_tup, ↓s_aug, ↓s_if, ↓s_assert, ↓asg_nil, ↓asg_cons, ↓e_int, ↓e_str, ↓e_bool, ↓e_name, ↓e_bin, ↓e_un, ↓e_bool2, ↓e_if, ↓e_cmp, ↓e_call, ↓e_bits, ↓e_sub, ↓e_tup, ↓t_not, ↓t_bool, ↓t_if, ↓t_cmp, ↓t_name, ↓t_call, ↓t_bin, ↓t_const, ↓t_sub, ↓es_nil, ↓es_cons, ↓b_one, ↓b_and, ↓b_or, ↓a_nil_and, ↓a_nil_or, ↓a_and, ↓a_or, ↓c_one, ↓c_more, ↓d_one, ↓d_more, ↓tupk_tup, ↓intk_int, ↓ksq_next, ↓ksq_ret, ↓ksq_brk, ↓ksq_cont, ↓kdf_ret, ↓kdf_next, ↓klp_next, ↓klp_cont, ↓klp_brk, ↓klp_ret, ↓vl_cons, ↓vl_nil, ↓vg_cons, ↓vl0_cons, ↓upk_nil, ↓upk_cons, ↓bv_add, ↓bv_sub, ↓bv_mul, ↓bv_fdiv, ↓bv_mod, ↓bv_shl, ↓bv_shr, ↓bv_and, ↓bv_xor, ↓bv_pow, ↓av_add, ↓av_sub, ↓av_mul, ↓av_shl, ↓av_shr, ↓av_xor, ↓cv_eq, ↓cv_ne, ↓cv_lt, ↓cv_le, ↓cv_gt, ↓cv_ge, ↓cv_str, ↓cv_tup, ↓cv_in, ↓cv_instr, ↓tr_bool, ↓tr_int, ↓uv_neg, ↓uv_not, ↓br_dec, ↓br_tt, ↓br_ff, ↓br_not, ↓sub2_0, ↓sub2_1, ↓sub4_0, ok_name, ok_call, isG_eq, isL_eq, gk_cons, lc_cons, kg, kl, ↓reduceIte, List.all_cons, List.all_nil, List.isEmpty_cons, nstar, nset, nslice, ncall, ncomp, Bool.and_true, Bool.true_and, Bool.not_false, Bool.not_true, and_true, true_and, ne_eq, not_true, not_false_eq_true, List.length_cons, List.length_nil, ite_not, beq_self_eq_true, decide_false, decide_true, Bool.false_eq_true, ↓String.reduceEq, ↓String.reduceNe, Int.reduceLT, Int.reduceLE, Int.reduceGT, Int.reduceGE, Int.reduceEq, Int.reduceNe, Int.reduceNeg, Int.reduceAdd, Int.reduceSub, Int.reduceMul, Int.reduceToNat, Nat.reduceLT, Nat.reduceLeDiff, Nat.reduceAdd, Nat.reduceMul, Nat.reduceEqDiff]
  exact ⟨known_round_int w, round_int_spec w ho⟩
theorem known_to_int (w : World) : Known (KK w) (Str.ofString "to_int") := (d_to_int w).known
theorem to_int_spec (w : World) {z : Nat} {d : D} (h : IntF z d) (hb : bl z ≤ 100000) : Spec PP w (KK w) 1 "to_int" [d] (· = .int z) := by
  rcases h with ⟨rfl, rfl⟩ | ⟨hz, q, t, rfl, hq, rfl⟩
  · (refine spec_defk (gok _) (d_to_int w) ?_; (conv => arg 7; whnf); (conv => arg 5; whnf); (conv => arg 8; simp only [List.cons_append, List.nil_append, List.zip_cons_cons, List.zip_nil_left, List.zip_nil_right, List.append_nil]); (conv => arg 6; unfold GT))
    unfold fl
    simp only [↓s_nil, ↓s_cons, ↓s_pass, ↓s_brk, ↓s_ret, ↓s_asg, ↓s_tup, ↓s_aug, ↓s_if, ↓s_assert, ↓asg_nil, ↓asg_cons, ↓e_int, ↓e_str, ↓e_bool, ↓e_name, ↓e_bin, ↓e_un, ↓e_bool2, ↓e_if, ↓e_cmp, ↓e_call, ↓e_bits, ↓e_sub, ↓e_tup, ↓t_not, ↓t_bool, ↓t_if, ↓t_cmp, ↓t_name, ↓t_call, ↓t_bin, ↓t_const, ↓t_sub, ↓es_nil, ↓es_cons, ↓b_one, ↓b_and, ↓b_or, ↓a_nil_and, ↓a_nil_or, ↓a_and, ↓a_or, ↓c_one, ↓c_more, ↓d_one, ↓d_more, ↓tupk_tup, ↓intk_int, ↓ksq_next, ↓ksq_ret, ↓ksq_brk, ↓ksq_cont, ↓kdf_ret, ↓kdf_next, ↓klp_next, ↓klp_cont, ↓klp_brk, ↓klp_ret, ↓vl_cons, ↓vl_nil, ↓vg_cons, ↓vl0_cons, ↓upk_nil, ↓upk_cons, ↓bv_add, ↓bv_sub, ↓bv_mul, ↓bv_fdiv, ↓bv_mod, ↓bv_shl, ↓bv_shr, ↓bv_and, ↓bv_xor, ↓bv_pow, ↓av_add, ↓av_sub, ↓av_mul, ↓av_shl, ↓av_shr, ↓av_xor, ↓cv_eq, ↓cv_ne, ↓cv_lt, ↓cv_le, ↓cv_gt, ↓cv_ge, ↓cv_str, ↓cv_tup, ↓cv_in, ↓cv_instr, ↓tr_bool, ↓tr_int, ↓uv_neg, ↓uv_not, ↓br_dec, ↓br_tt, ↓br_ff, ↓br_not, ↓sub2_0, ↓sub2_1, ↓sub4_0, ok_name, ok_call, isG_eq, isL_eq, gk_cons, lc_cons, kg, kl, ↓reduceIte, List.all_cons, List.all_nil, List.isEmpty_cons, nstar, nset, nslice, ncall, ncomp, Bool.and_true, Bool.true_and, Bool.not_false, Bool.not_true, and_true, true_and, ne_eq, not_true, not_false_eq_true, List.length_cons, List.length_nil, ite_not, beq_self_eq_true, decide_false, decide_true, Bool.false_eq_true, ↓String.reduceEq, ↓String.reduceNe, Int.reduceLT, Int.reduceLE, Int.reduceGT, Int.reduceGE, Int.reduceEq, Int.reduceNe, Int.reduceNeg, Int.reduceAdd, Int.reduceSub, Int.reduceMul, Int.reduceToNat, Nat.reduceLT, Nat.reduceLeDiff, Nat.reduceAdd, Nat.reduceMul, Nat.reduceEqDiff]
    exact ⟨by decide, rfl⟩
  · have hq0 : 0 < q := by omega
    rw [bl_shift hq0] at hb
    (refine spec_defk (gok _) (d_to_int w) ?_; (conv => arg 7; whnf); (conv => arg 5; whnf); (conv => arg 8; simp only [List.cons_append, List.nil_append, List.zip_cons_cons, List.zip_nil_left, List.zip_nil_right, List.append_nil]); (conv => arg 6; unfold GT))
    unfold fl
    simp only [↓s_nil, ↓s_cons, ↓s_pass, ↓s_brk, ↓s_ret, ↓s_asg, ↓s_tup, ↓s_aug, ↓s_if, ↓s_assert, ↓asg_nil, ↓asg_cons, ↓e_int, ↓e_str, ↓e_bool, ↓e_name, ↓e_bin, ↓e_un, ↓e_bool2, ↓e_if, ↓e_cmp, ↓e_call, ↓e_bits, ↓e_sub, ↓e_tup, ↓t_not, ↓t_bool, ↓t_if, ↓t_cmp, ↓t_name, ↓t_call, ↓t_bin, ↓t_const, ↓t_sub, ↓es_nil, ↓es_cons, ↓b_one, ↓b_and, ↓b_or, ↓a_nil_and, ↓a_nil_or, ↓a_and, ↓a_or, ↓c_one, ↓c_more, ↓d_one, ↓d_more, ↓tupk_tup, ↓intk_int, ↓ksq_next, ↓ksq_ret, ↓ksq_brk, ↓ksq_cont, ↓kdf_ret, ↓kdf_next, ↓klp_next, ↓klp_cont, ↓klp_brk, ↓klp_ret, ↓vl_cons, ↓vl_nil, ↓vg_cons, ↓vl0_cons, ↓upk_nil, ↓upk_cons, ↓bv_add, ↓bv_sub, ↓bv_mul, ↓bv_fdiv, ↓bv_mod, ↓bv_shl, ↓bv_shr, ↓bv_and, ↓bv_xor, ↓bv_pow, ↓av_add, ↓av_sub, ↓av_mul, ↓av_shl, ↓av_shr, ↓av_xor, ↓cv_eq, ↓cv_ne, ↓cv_lt, ↓cv_le, ↓cv_gt, ↓cv_ge, ↓cv_str, ↓cv_tup, ↓cv_in, ↓cv_instr, ↓tr_bool, ↓tr_int, ↓uv_neg, ↓uv_not, ↓br_dec, ↓br_tt, ↓br_ff, ↓br_not, ↓sub2_0, ↓sub2_1, ↓sub4_0, ok_name, ok_call, isG_eq, isL_eq, gk_cons, lc_cons, kg, kl, ↓reduceIte, List.all_cons, List.all_nil, List.isEmpty_cons, nstar, nset, nslice, ncall, ncomp, Bool.and_true, Bool.true_and, Bool.not_false, Bool.not_true, and_true, true_and, ne_eq, not_true, not_false_eq_true, List.length_cons, List.length_nil, ite_not, beq_self_eq_true, decide_false, decide_true, Bool.false_eq_true, ↓String.reduceEq, ↓String.reduceNe, Int.reduceLT, Int.reduceLE, Int.reduceGT, Int.reduceGE, Int.reduceEq, Int.reduceNe, Int.reduceNeg, Int.reduceAdd, Int.reduceSub, Int.reduceMul, Int.reduceToNat, Nat.reduceLT, Nat.reduceLeDiff, Nat.reduceAdd, Nat.reduceMul, Nat.reduceEqDiff]
    rw [if_neg (by omega), if_pos (by omega)]
    refine ⟨⟨by omega, ?_⟩, ?_⟩
    · show ((bl q : Nat) : Int) + _ ≤ _; omega
    · rw [show ((0 : Int) + t).toNat = t by omega]; congr 1
theorem to_int_neg (w : World) {z : Nat} {d : D} (hz : 0 < z) (h : IsF 1 z 0 d) (hb : bl z ≤ 100000) : Spec PP w (KK w) 1 "to_int" [d] (· = .int (-(z : Int))) := by
  obtain ⟨q, t, rfl, hq, rfl⟩ := h
  have hq0 : 0 < q := by omega
  rw [bl_shift hq0] at hb
  (refine spec_defk (gok _) (d_to_int w) ?_; (conv => arg 7; whnf); (conv => arg 5; whnf); (conv => arg 8; simp only [List.cons_append, List.nil_append, List.zip_cons_cons, List.zip_nil_left, List.zip_nil_right, List.append_nil]); (conv => arg 6; unfold GT))
  unfold fl
  simp only [↓s_nil, ↓s_cons, ↓s_pass, ↓s_brk, ↓s_ret, ↓s_asg, ↓s_tup, ↓s_aug, ↓s_if, ↓s_assert, ↓asg_nil, ↓asg_cons, ↓e_int, ↓e_str, ↓e_bool, ↓e_name, ↓e_bin, ↓e_un, ↓e_bool2, ↓e_if, ↓e_cmp, ↓e_call, ↓e_bits, ↓e_sub, ↓e_tup, ↓t_not, ↓t_bool, ↓t_if, ↓t_cmp, ↓t_name, ↓t_call, ↓t_bin, ↓t_const, ↓t_sub, ↓es_nil, ↓es_cons, ↓b_one, ↓b_and, ↓b_or, ↓a_nil_and, ↓a_nil_or, ↓a_and, ↓a_or, ↓c_one, ↓c_more, ↓d_one, ↓d_more, ↓tupk_tup, ↓intk_int, ↓ksq_next, ↓ksq_ret, ↓ksq_brk, ↓ksq_cont, ↓kdf_ret, ↓kdf_next, ↓klp_next, ↓klp_cont, ↓klp_brk, ↓klp_ret, ↓vl_cons, ↓vl_nil, ↓vg_cons, ↓vl0_cons, ↓upk_nil, ↓upk_cons, ↓bv_add, ↓bv_sub, ↓bv_mul, ↓bv_fdiv, ↓bv_mod, ↓bv_shl, ↓bv_shr, ↓bv_and, ↓bv_xor, ↓bv_pow, ↓av_add, ↓av_sub, ↓av_mul, ↓av_shl, ↓av_shr, ↓av_xor, ↓cv_eq, ↓cv_ne, ↓cv_lt, ↓cv_le, ↓cv_gt, ↓cv_ge, ↓cv_str, ↓cv_tup, ↓cv_in, ↓cv_instr, ↓tr_bool, ↓tr_int, ↓uv_neg, ↓uv_not, ↓br_dec, ↓br_tt, ↓br_ff, ↓br_not, ↓sub2_0, ↓sub2_1, ↓sub4_0, ok_name, ok_call, isG_eq, isL_eq, gk_cons, lc_cons, kg, kl, ↓reduceIte, List.all_cons, List.all_nil, List.isEmpty_cons, nstar, nset, nslice, ncall, ncomp, Bool.and_true, Bool.true_and, Bool.not_false, Bool.not_true, and_true, true_and, ne_eq, not_true, not_false_eq_true, List.length_cons, List.length_nil, ite_not, beq_self_eq_true, decide_false, decide_true, Bool.false_eq_true, ↓String.reduceEq, ↓String.reduceNe, Int.reduceLT, Int.reduceLE, Int.reduceGT, Int.reduceGE, Int.reduceEq, Int.reduceNe, Int.reduceNeg, Int.reduceAdd, Int.reduceSub, Int.reduceMul, Int.reduceToNat, Nat.reduceLT, Nat.reduceLeDiff, Nat.reduceAdd, Nat.reduceMul, Nat.reduceEqDiff]
  rw [if_neg (by omega), if_pos (by omega)]
  refine ⟨⟨by omega, ?_⟩, ?_⟩
  · have : Builtin.Int.intBits (-(q : Int)) ≤ bl q := intBits_neg_le (Nat.le_refl _)
    omega
  · rw [show ((0 : Int) + t).toNat = t by omega]; congr 1; push_cast; grind
end Mine

end
section
open PySem PySem.W PyProof.Rows PySem.Calls
set_option maxRecDepth 100000
namespace Mine
theorem pw_lt_inv {a b : Int} (h : pw a < pw b) : a < b := by
  rcases (by omega : a < b ∨ b ≤ a) with h' | h'
  · exact h'
  · have := pw_mono h'; grind
theorem pw_le_inv {a b : Int} (h : pw a ≤ pw b) : a ≤ b := by
  rcases (by omega : a ≤ b ∨ b + 1 ≤ a) with h' | h'
  · exact h'
  · have := pw_mono h'; rw [pw_succ] at this; have := pw_pos b; grind
/-- the exponent lies where the value does -/
theorem exp_lo {m : Nat} {e X : Int} (h : pw (-X) ≤ m * pw e) : -X < e + bl m := pw_lt_inv (by have := lt_pw_of_bits (m := m) (e := e); grind)
theorem exp_hi {m : Nat} {e X : Int} (hm : 0 < m) (h : m * pw e ≤ pw X) : e + bl m - 1 ≤ X := pw_le_inv (by have := pw_le_of_bits (e := e) hm; grind)

theorem bl_one : bl 1 = 1 := bl_eq (k := 0) (by decide) (by decide)
/-- a number as a fraction of whole numbers -/
def Frac (v : Rat) (B : Nat) (d : D) : Prop := ∃ P Q : Nat, 0 < P ∧ 0 < Q ∧ (P : Rat) = v * Q ∧ bl P ≤ B ∧ bl Q ≤ B ∧ d = .tuple [.int P, .int Q]
theorem known_to_rational (w : World) : Known (KK w) (Str.ofString "to_rational") := (d_to_rational w).known
theorem to_rational_spec (w : World) {p : Nat} {v : Rat} {d : D} {X : Nat} (h : Pos p v d) (hlo : pw (-(X : Int)) ≤ v) (hhi : v ≤ pw X) (hB : X + p ≤ 1000000) : Spec PP w (KK w) 1 "to_rational" [d] (Frac v (X + p + 1)) := by
  obtain ⟨m, e, ⟨rfl, ho, hp⟩, rfl⟩ := h
  have hm : 0 < m := by omega
  have h1 := exp_lo hlo
  have h2 := exp_hi hm hhi
  have h3 := bl_ge1 hm
  (refine spec_defk (gok _) (d_to_rational w) ?_; (conv => arg 7; whnf); (conv => arg 5; whnf); (conv => arg 8; simp only [List.cons_append, List.nil_append, List.zip_cons_cons, List.zip_nil_left, List.zip_nil_right, List.append_nil]); (conv => arg 6; unfold GT))
  unfold fl
  simp only [↓s_nil, ↓s_cons, ↓s_pass, ↓s_brk, ↓s_ret, ↓s_asg, ↓s_tup, ↓s_aug, ↓s_if, ↓s_assert, ↓asg_nil, ↓asg_cons, ↓e_int, ↓e_str, ↓e_bool, ↓e_name, ↓e_bin, ↓e_un, ↓e_bool2, ↓e_if, ↓e_cmp, ↓e_call, ↓e_bits, ↓e_sub, ↓e_tup, ↓t_not, ↓t_bool, ↓t_if, ↓t_cmp, ↓t_name, ↓t_call, ↓t_bin, ↓t_const, ↓t_sub, ↓es_nil, ↓es_cons, ↓b_one, ↓b_and, ↓b_or, ↓a_nil_and, ↓a_nil_or, ↓a_and, ↓a_or, ↓c_one, ↓c_more, ↓d_one, ↓d_more, ↓tupk_tup, ↓intk_int, ↓ksq_next, ↓ksq_ret, ↓ksq_brk, ↓ksq_cont, ↓kdf_ret, ↓kdf_next, ↓klp_next, ↓klp_cont, ↓klp_brk, ↓klp_ret, ↓vl_cons, ↓vl_nil, ↓vg_cons, ↓vl0_cons, ↓upk_nil, ↓upk_cons, ↓bv_add, ↓bv_sub, ↓bv_mul, ↓bv_fdiv, ↓bv_mod, ↓bv_shl, ↓bv_shr, ↓bv_and, ↓bv_xor, ↓bv_pow, ↓av_add, ↓av_sub, ↓av_mul, ↓av_shl, ↓av_shr, ↓av_xor, ↓cv_eq, ↓cv_ne, ↓cv_lt, ↓cv_le, ↓cv_gt, ↓cv_ge, ↓cv_str, ↓cv_tup, ↓cv_in, ↓cv_instr, ↓tr_bool, ↓tr_int, ↓uv_neg, ↓uv_not, ↓br_dec, ↓br_tt, ↓br_ff, ↓br_not, ↓sub2_0, ↓sub2_1, ↓sub4_0, ok_name, ok_call, isG_eq, isL_eq, gk_cons, lc_cons, kg, kl, ↓reduceIte, List.all_cons, List.all_nil, List.isEmpty_cons, nstar, nset, nslice, ncall, ncomp, Bool.and_true, Bool.true_and, Bool.not_false, Bool.not_true, and_true, true_and, ne_eq, not_true, not_false_eq_true, List.length_cons, List.length_nil, ite_not, beq_self_eq_true, decide_false, decide_true, Bool.false_eq_true, ↓String.reduceEq, ↓String.reduceNe, Int.reduceLT, Int.reduceLE, Int.reduceGT, Int.reduceGE, Int.reduceEq, Int.reduceNe, Int.reduceNeg, Int.reduceAdd, Int.reduceSub, Int.reduceMul, Int.reduceToNat, Nat.reduceLT, Nat.reduceLeDiff, Nat.reduceAdd, Nat.reduceMul, Nat.reduceEqDiff]
  rw [if_neg (by omega), if_neg (by omega)]
  split
  · rename_i h
    obtain ⟨t, rfl⟩ := Int.eq_ofNat_of_zero_le h
    refine ⟨⟨by omega, ?_⟩, ?_, known_int w, (int_spec w _).mono fun d hd => ?_⟩
    · show ((bl 1 : Nat) : Int) + _ ≤ _; rw [bl_one]; omega
    · rw [Int.one_mul, Int.toNat_natCast, two_cast]
      refine IntMulOk.of_le (m := bl m) (n := bl (2 ^ t)) (Nat.le_refl _) (Nat.le_refl _) ?_
      rw [bl_eq (k := t) (Nat.le_refl _) (by rw [Nat.pow_succ]; have := Nat.two_pow_pos t; omega)]; omega
    · subst hd
      refine ⟨m * 2 ^ t, 1, Nat.mul_pos hm (Nat.two_pow_pos t), by decide, ?_, ?_, by rw [bl_one]; omega, ?_⟩
      · rw [pw_nat, Rat.natCast_mul]; have : ((1 : Nat) : Rat) = 1 := rfl; grind
      · rw [bl_shift hm]; omega
      · simp
  · rename_i h
    refine ⟨known_int w, (int_spec w _).mono fun d hd => ?_⟩
    subst hd
    simp only [↓s_nil, ↓s_cons, ↓s_pass, ↓s_brk, ↓s_ret, ↓s_asg, ↓s_tup, ↓s_aug, ↓s_if, ↓s_assert, ↓asg_nil, ↓asg_cons, ↓e_int, ↓e_str, ↓e_bool, ↓e_name, ↓e_bin, ↓e_un, ↓e_bool2, ↓e_if, ↓e_cmp, ↓e_call, ↓e_bits, ↓e_sub, ↓e_tup, ↓t_not, ↓t_bool, ↓t_if, ↓t_cmp, ↓t_name, ↓t_call, ↓t_bin, ↓t_const, ↓t_sub, ↓es_nil, ↓es_cons, ↓b_one, ↓b_and, ↓b_or, ↓a_nil_and, ↓a_nil_or, ↓a_and, ↓a_or, ↓c_one, ↓c_more, ↓d_one, ↓d_more, ↓tupk_tup, ↓intk_int, ↓ksq_next, ↓ksq_ret, ↓ksq_brk, ↓ksq_cont, ↓kdf_ret, ↓kdf_next, ↓klp_next, ↓klp_cont, ↓klp_brk, ↓klp_ret, ↓vl_cons, ↓vl_nil, ↓vg_cons, ↓vl0_cons, ↓upk_nil, ↓upk_cons, ↓bv_add, ↓bv_sub, ↓bv_mul, ↓bv_fdiv, ↓bv_mod, ↓bv_shl, ↓bv_shr, ↓bv_and, ↓bv_xor, ↓bv_pow, ↓av_add, ↓av_sub, ↓av_mul, ↓av_shl, ↓av_shr, ↓av_xor, ↓cv_eq, ↓cv_ne, ↓cv_lt, ↓cv_le, ↓cv_gt, ↓cv_ge, ↓cv_str, ↓cv_tup, ↓cv_in, ↓cv_instr, ↓tr_bool, ↓tr_int, ↓uv_neg, ↓uv_not, ↓br_dec, ↓br_tt, ↓br_ff, ↓br_not, ↓sub2_0, ↓sub2_1, ↓sub4_0, ok_name, ok_call, isG_eq, isL_eq, gk_cons, lc_cons, kg, kl, ↓reduceIte, List.all_cons, List.all_nil, List.isEmpty_cons, nstar, nset, nslice, ncall, ncomp, Bool.and_true, Bool.true_and, Bool.not_false, Bool.not_true, and_true, true_and, ne_eq, not_true, not_false_eq_true, List.length_cons, List.length_nil, ite_not, beq_self_eq_true, decide_false, decide_true, Bool.false_eq_true, ↓String.reduceEq, ↓String.reduceNe, Int.reduceLT, Int.reduceLE, Int.reduceGT, Int.reduceGE, Int.reduceEq, Int.reduceNe, Int.reduceNeg, Int.reduceAdd, Int.reduceSub, Int.reduceMul, Int.reduceToNat, Nat.reduceLT, Nat.reduceLeDiff, Nat.reduceAdd, Nat.reduceMul, Nat.reduceEqDiff]
    obtain ⟨t, ht⟩ := Int.eq_ofNat_of_zero_le (show 0 ≤ -e by omega)
    obtain rfl : e = -(t : Int) := by omega
    refine ⟨⟨by omega, ?_⟩, m, 2 ^ t, hm, Nat.two_pow_pos t, ?_, by omega, ?_, ?_⟩
    · show ((bl 1 : Nat) : Int) + _ ≤ _; rw [bl_one]; omega
    · rw [← pw_nat]; have := pw_neg t; grind
    · rw [bl_eq (k := t) (Nat.le_refl _) (by rw [Nat.pow_succ]; have := Nat.two_pow_pos t; omega)]; omega
    · simp
theorem known_sign (w : World) : Known (KK w) (Str.ofString "mpf_sign") := (d_mpf_sign w).known
theorem sign_spec (w : World) {p : Nat} {v : Rat} {d : D} (h : Pos p v d) : Spec PP w (KK w) 1 "mpf_sign" [d] (· = .int 1) := by
  obtain ⟨m, e, ⟨rfl, ho, hp⟩, rfl⟩ := h
  (refine spec_defk (gok _) (d_mpf_sign w) ?_; (conv => arg 7; whnf); (conv => arg 5; whnf); (conv => arg 8; simp only [List.cons_append, List.nil_append, List.zip_cons_cons, List.zip_nil_left, List.zip_nil_right, List.append_nil]); (conv => arg 6; unfold GT))
  unfold fl
  simp only [↓s_nil, ↓s_cons, ↓s_pass, ↓s_brk, ↓s_ret, ↓s_asg, ↓s_tup, ↓s_aug, ↓s_if, ↓s_assert, ↓asg_nil, ↓asg_cons, ↓e_int, ↓e_str, ↓e_bool, ↓e_name, ↓e_bin, ↓e_un, ↓e_bool2, ↓e_if, ↓e_cmp, ↓e_call, ↓e_bits, ↓e_sub, ↓e_tup, ↓t_not, ↓t_bool, ↓t_if, ↓t_cmp, ↓t_name, ↓t_call, ↓t_bin, ↓t_const, ↓t_sub, ↓es_nil, ↓es_cons, ↓b_one, ↓b_and, ↓b_or, ↓a_nil_and, ↓a_nil_or, ↓a_and, ↓a_or, ↓c_one, ↓c_more, ↓d_one, ↓d_more, ↓tupk_tup, ↓intk_int, ↓ksq_next, ↓ksq_ret, ↓ksq_brk, ↓ksq_cont, ↓kdf_ret, ↓kdf_next, ↓klp_next, ↓klp_cont, ↓klp_brk, ↓klp_ret, ↓vl_cons, ↓vl_nil, ↓vg_cons, ↓vl0_cons, ↓upk_nil, ↓upk_cons, ↓bv_add, ↓bv_sub, ↓bv_mul, ↓bv_fdiv, ↓bv_mod, ↓bv_shl, ↓bv_shr, ↓bv_and, ↓bv_xor, ↓bv_pow, ↓av_add, ↓av_sub, ↓av_mul, ↓av_shl, ↓av_shr, ↓av_xor, ↓cv_eq, ↓cv_ne, ↓cv_lt, ↓cv_le, ↓cv_gt, ↓cv_ge, ↓cv_str, ↓cv_tup, ↓cv_in, ↓cv_instr, ↓tr_bool, ↓tr_int, ↓uv_neg, ↓uv_not, ↓br_dec, ↓br_tt, ↓br_ff, ↓br_not, ↓sub2_0, ↓sub2_1, ↓sub4_0, ok_name, ok_call, isG_eq, isL_eq, gk_cons, lc_cons, kg, kl, ↓reduceIte, List.all_cons, List.all_nil, List.isEmpty_cons, nstar, nset, nslice, ncall, ncomp, Bool.and_true, Bool.true_and, Bool.not_false, Bool.not_true, and_true, true_and, ne_eq, not_true, not_false_eq_true, List.length_cons, List.length_nil, ite_not, beq_self_eq_true, decide_false, decide_true, Bool.false_eq_true, ↓String.reduceEq, ↓String.reduceNe, Int.reduceLT, Int.reduceLE, Int.reduceGT, Int.reduceGE, Int.reduceEq, Int.reduceNe, Int.reduceNeg, Int.reduceAdd, Int.reduceSub, Int.reduceMul, Int.reduceToNat, Nat.reduceLT, Nat.reduceLeDiff, Nat.reduceAdd, Nat.reduceMul, Nat.reduceEqDiff]
  rw [if_neg (by omega)]
  exact ⟨by decide, rfl⟩
theorem known_mul (w : World) : Known (KK w) (Str.ofString "mpf_mul") := (d_mpf_mul w).known
theorem mul_spec (w : World) {p q : Nat} {v u : Rat} {d e : D} (h : Pos p v d) (h' : Pos q u e) (hB : p + q ≤ 100000) : Spec PP w (KK w) 1 "mpf_mul" [d, e] (Pos (p + q) (v * u)) := by
  obtain ⟨m, e, ⟨rfl, ho, hp⟩, rfl⟩ := h
  obtain ⟨m', e', ⟨rfl, ho', hp'⟩, rfl⟩ := h'
  have hm : 0 < m := by omega
  have hm' : 0 < m' := by omega
  have hmm := Nat.mul_pos hm hm'
  (refine spec_defk (gok _) (d_mpf_mul w) ?_; (conv => arg 7; whnf); (conv => arg 5; whnf); (conv => arg 8; simp only [List.cons_append, List.nil_append, List.zip_cons_cons, List.zip_nil_left, List.zip_nil_right, List.append_nil]); (conv => arg 6; unfold GT))
  unfold fl
  simp only [↓s_nil, ↓s_cons, ↓s_pass, ↓s_brk, ↓s_ret, ↓s_asg, ↓s_tup, ↓s_aug, ↓s_if, ↓s_assert, ↓asg_nil, ↓asg_cons, ↓e_int, ↓e_str, ↓e_bool, ↓e_name, ↓e_bin, ↓e_un, ↓e_bool2, ↓e_if, ↓e_cmp, ↓e_call, ↓e_bits, ↓e_sub, ↓e_tup, ↓t_not, ↓t_bool, ↓t_if, ↓t_cmp, ↓t_name, ↓t_call, ↓t_bin, ↓t_const, ↓t_sub, ↓es_nil, ↓es_cons, ↓b_one, ↓b_and, ↓b_or, ↓a_nil_and, ↓a_nil_or, ↓a_and, ↓a_or, ↓c_one, ↓c_more, ↓d_one, ↓d_more, ↓tupk_tup, ↓intk_int, ↓ksq_next, ↓ksq_ret, ↓ksq_brk, ↓ksq_cont, ↓kdf_ret, ↓kdf_next, ↓klp_next, ↓klp_cont, ↓klp_brk, ↓klp_ret, ↓vl_cons, ↓vl_nil, ↓vg_cons, ↓vl0_cons, ↓upk_nil, ↓upk_cons, ↓bv_add, ↓bv_sub, ↓bv_mul, ↓bv_fdiv, ↓bv_mod, ↓bv_shl, ↓bv_shr, ↓bv_and, ↓bv_xor, ↓bv_pow, ↓av_add, ↓av_sub, ↓av_mul, ↓av_shl, ↓av_shr, ↓av_xor, ↓cv_eq, ↓cv_ne, ↓cv_lt, ↓cv_le, ↓cv_gt, ↓cv_ge, ↓cv_str, ↓cv_tup, ↓cv_in, ↓cv_instr, ↓tr_bool, ↓tr_int, ↓uv_neg, ↓uv_not, ↓br_dec, ↓br_tt, ↓br_ff, ↓br_not, ↓sub2_0, ↓sub2_1, ↓sub4_0, ok_name, ok_call, isG_eq, isL_eq, gk_cons, lc_cons, kg, kl, ↓reduceIte, List.all_cons, List.all_nil, List.isEmpty_cons, nstar, nset, nslice, ncall, ncomp, Bool.and_true, Bool.true_and, Bool.not_false, Bool.not_true, and_true, true_and, ne_eq, not_true, not_false_eq_true, List.length_cons, List.length_nil, ite_not, beq_self_eq_true, decide_false, decide_true, Bool.false_eq_true, ↓String.reduceEq, ↓String.reduceNe, Int.reduceLT, Int.reduceLE, Int.reduceGT, Int.reduceGE, Int.reduceEq, Int.reduceNe, Int.reduceNeg, Int.reduceAdd, Int.reduceSub, Int.reduceMul, Int.reduceToNat, Nat.reduceLT, Nat.reduceLeDiff, Nat.reduceAdd, Nat.reduceMul, Nat.reduceEqDiff]
  have hb : bl (m * m') ≤ p + q := by
    refine bl_le.mpr ?_
    rw [Nat.pow_add]
    exact Nat.mul_lt_mul'' (bl_le.mp hp) (bl_le.mp hp')
  have hc : (m : Int) * (m' : Int) = ((m * m' : Nat) : Int) := by simp
  refine ⟨IntMulOk.of_le (m := p) (n := q) hp hp' (by omega), ?_⟩
  rw [hc, if_neg (by omega), bitXor_self]
  refine ⟨m * m', e + e', ⟨rfl, ?_, hb⟩, ?_⟩
  · rw [Nat.mul_mod, ho, ho']
  · rw [pw_add, Rat.natCast_mul]; grind
theorem mulint_bits {m N : Nat} (hm : 0 < m) (hN : 0 < N) : (bl m : Int) + ((bl N : Int) - 1) + ((m * N / 2 ^ (bl m + bl N - 1) : Nat) : Int) = bl (m * N) := by
  have a1 := bl_lo hm; have a2 := bl_up m; have a3 := bl_lo hN; have a4 := bl_up N
  have b1 := bl_ge1 hm; have b2 := bl_ge1 hN
  have lo : 2 ^ (bl m + bl N - 2) ≤ m * N := by
    rw [show bl m + bl N - 2 = (bl m - 1) + (bl N - 1) by omega, Nat.pow_add]; exact Nat.mul_le_mul a1 a3
  have hi : m * N < 2 ^ (bl m + bl N) := by rw [Nat.pow_add]; exact Nat.mul_lt_mul'' a2 a4
  rcases Nat.lt_or_ge (m * N) (2 ^ (bl m + bl N - 1)) with h | h
  · rw [Nat.div_eq_of_lt h]
    have := bl_eq (k := bl m + bl N - 2) lo (by rw [show bl m + bl N - 2 + 1 = bl m + bl N - 1 by omega]; exact h)
    omega
  · have hq : m * N / 2 ^ (bl m + bl N - 1) = 1 := by
      apply Nat.div_eq_of_lt_le
      · omega
      · rw [show (1 + 1) * 2 ^ (bl m + bl N - 1) = 2 ^ (bl m + bl N) by rw [show bl m + bl N = (bl m + bl N - 1) + 1 by omega, Nat.pow_succ]; simp [Nat.mul_comm]]; exact hi
    have := bl_eq (k := bl m + bl N - 1) h (by rw [show bl m + bl N - 1 + 1 = bl m + bl N by omega]; exact hi)
    omega
theorem known_mul_int (w : World) : Known (KK w) (Str.ofString "mpf_mul_int") := (d_mpf_mul_int w).known
theorem mul_int_spec (w : World) {p : Nat} {v : Rat} {d : D} {N P : Nat} (h : Pos p v d) (hN : 0 < N) (hP : p + bl N ≤ P) (hB : P ≤ 100000) : Spec PP w (KK w) 4 "mpf_mul_int" [d, .int N, .int P] (Pos P (v * N)) := by
  obtain ⟨m, e, ⟨rfl, ho, hp⟩, rfl⟩ := h
  have hm : 0 < m := by omega
  have hmm := Nat.mul_pos hm hN
  (refine spec_defk (gok _) (d_mpf_mul_int w) ?_; (conv => arg 7; whnf); (conv => arg 5; whnf); (conv => arg 8; simp only [List.cons_append, List.nil_append, List.zip_cons_cons, List.zip_nil_left, List.zip_nil_right, List.append_nil]); (conv => arg 6; unfold GT))
  unfold fl
  simp only [↓s_nil, ↓s_cons, ↓s_pass, ↓s_brk, ↓s_ret, ↓s_asg, ↓s_tup, ↓s_aug, ↓s_if, ↓s_assert, ↓asg_nil, ↓asg_cons, ↓e_int, ↓e_str, ↓e_bool, ↓e_name, ↓e_bin, ↓e_un, ↓e_bool2, ↓e_if, ↓e_cmp, ↓e_call, ↓e_bits, ↓e_sub, ↓e_tup, ↓t_not, ↓t_bool, ↓t_if, ↓t_cmp, ↓t_name, ↓t_call, ↓t_bin, ↓t_const, ↓t_sub, ↓es_nil, ↓es_cons, ↓b_one, ↓b_and, ↓b_or, ↓a_nil_and, ↓a_nil_or, ↓a_and, ↓a_or, ↓c_one, ↓c_more, ↓d_one, ↓d_more, ↓tupk_tup, ↓intk_int, ↓ksq_next, ↓ksq_ret, ↓ksq_brk, ↓ksq_cont, ↓kdf_ret, ↓kdf_next, ↓klp_next, ↓klp_cont, ↓klp_brk, ↓klp_ret, ↓vl_cons, ↓vl_nil, ↓vg_cons, ↓vl0_cons, ↓upk_nil, ↓upk_cons, ↓bv_add, ↓bv_sub, ↓bv_mul, ↓bv_fdiv, ↓bv_mod, ↓bv_shl, ↓bv_shr, ↓bv_and, ↓bv_xor, ↓bv_pow, ↓av_add, ↓av_sub, ↓av_mul, ↓av_shl, ↓av_shr, ↓av_xor, ↓cv_eq, ↓cv_ne, ↓cv_lt, ↓cv_le, ↓cv_gt, ↓cv_ge, ↓cv_str, ↓cv_tup, ↓cv_in, ↓cv_instr, ↓tr_bool, ↓tr_int, ↓uv_neg, ↓uv_not, ↓br_dec, ↓br_tt, ↓br_ff, ↓br_not, ↓sub2_0, ↓sub2_1, ↓sub4_0, ok_name, ok_call, isG_eq, isL_eq, gk_cons, lc_cons, kg, kl, ↓reduceIte, List.all_cons, List.all_nil, List.isEmpty_cons, nstar, nset, nslice, ncall, ncomp, Bool.and_true, Bool.true_and, Bool.not_false, Bool.not_true, and_true, true_and, ne_eq, not_true, not_false_eq_true, List.length_cons, List.length_nil, ite_not, beq_self_eq_true, decide_false, decide_true, Bool.false_eq_true, ↓String.reduceEq, ↓String.reduceNe, Int.reduceLT, Int.reduceLE, Int.reduceGT, Int.reduceGE, Int.reduceEq, Int.reduceNe, Int.reduceNeg, Int.reduceAdd, Int.reduceSub, Int.reduceMul, Int.reduceToNat, Nat.reduceLT, Nat.reduceLeDiff, Nat.reduceAdd, Nat.reduceMul, Nat.reduceEqDiff]
  rw [if_neg (by omega), if_neg (by omega), if_neg (by omega)]
  have hc : (m : Int) * (N : Int) = ((m * N : Nat) : Int) := by simp
  have b1 := bl_ge1 hm
  have b2 := bl_ge1 hN
  refine ⟨IntMulOk.of_le (m := p) (n := bl N) hp (Nat.le_refl _) (by omega), ?_, known_norm w, ?_⟩
  · show 0 ≤ ((bl m : Nat) : Int) + (((bl N : Nat) : Int) - 1); omega
  · rw [hc, two_cast, fdiv_nat]
    have e1 : ((bl m : Int) + ((Builtin.Int.intBits (N : Int) : Int) - 1)).toNat = bl m + bl N - 1 := by
      show ((bl m : Int) + ((bl N : Int) - 1)).toNat = _; omega
    rw [e1]
    have e2 := mulint_bits hm hN
    have e3 : (bl m : Int) + ((Builtin.Int.intBits (N : Int) : Int) - 1) = (bl m : Int) + ((bl N : Int) - 1) := rfl
    rw [e3, e2]
    refine (norm_m w (mode_d0 w) hmm (by omega)).mono fun d hd => ?_
    obtain ⟨M, E, nf, R⟩ := hd
    have hb : bl (m * N) ≤ P := by
      refine Nat.le_trans (bl_le.mpr ?_) hP
      rw [Nat.pow_add]
      exact Nat.mul_lt_mul'' (bl_le.mp hp) (bl_up N)
    have R' : RDn P ((m * N : Nat) * pw e) (M * pw E) := R
    have := R'.top (m * N) e (bl_le.mp hb) Rat.le_refl
    have hv : (M : Rat) * pw E = (m * N : Nat) * pw e := Rat.le_antisymm R'.le this
    exact ⟨M, E, nf, by rw [hv, Rat.natCast_mul]; grind⟩
end Mine

end
section
open PySem PySem.W PyProof.Rows PySem.Calls
set_option maxRecDepth 100000
namespace Mine
theorem Dir.sticky {dn : Bool} {p h M : Nat} {E E' : Int} {W : Rat} (hp : 2 ^ p ≤ 2 * h) (h1 : ((2 * h : Nat) : Rat) * pw E < W) (h2 : W < ((2 * h + 2 : Nat) : Rat) * pw E) (hM : bl M ≤ p)
    (R : Dir dn p (((2 * h + 1 : Nat) : Rat) * pw E) (M * pw E')) : Dir dn p W (M * pw E') := by
  cases dn with
  | true => exact sticky_dn hp h1 h2 hM R
  | false => exact sticky_up hp h1 h2 hM R
theorem fmod_nat (a b : Nat) : ((a : Int)).fmod ((b : Nat) : Int) = ((a % b : Nat) : Int) := by
  rw [Int.fmod_eq_emod_of_nonneg _ (by omega)]; rfl
theorem log2_lt_of_bl {n k : Nat} (h : bl n ≤ k) : ((n : Int)).natAbs.log2 < k + 1 := by
  rw [Int.natAbs_natCast]
  by_cases h0 : n = 0
  · subst h0; simp
  · have := (Nat.log2_lt h0).mpr (bl_le.mp h); omega
theorem known_div (w : World) : Known (KK w) (Str.ofString "mpf_div") := (d_mpf_div w).known
/-- the quotient by whole numbers -/
theorem quot_bits {m m' x p : Nat} (hm : 0 < m) (hm' : 0 < m') (hx : p + bl m' + 1 ≤ bl m + x) : 2 ^ p ≤ m * 2 ^ x / m' := by
  rw [Nat.le_div_iff_mul_le hm']
  have a1 := bl_lo hm
  have a2 := bl_up m'
  have b1 := bl_ge1 hm
  calc 2 ^ p * m' ≤ 2 ^ p * 2 ^ bl m' := Nat.mul_le_mul_left _ (Nat.le_of_lt a2)
    _ = 2 ^ (p + bl m') := (Nat.pow_add ..).symm
    _ ≤ 2 ^ (bl m - 1 + x) := Nat.pow_le_pow_right (by decide) (by omega)
    _ = 2 ^ (bl m - 1) * 2 ^ x := Nat.pow_add ..
    _ ≤ m * 2 ^ x := Nat.mul_le_mul_right _ a1
theorem eq_div {a b c : Rat} (hb : 0 < b) (h : c * b = a) : c = a / b := by
  rw [← h]; exact (Rat.mul_div_cancel (Rat.ne_of_gt hb)).symm
theorem lt_divd {a b c : Rat} (hb : 0 < b) (h : c * b < a) : c < a / b := (Rat.lt_div_iff hb).mpr h
theorem divd_lt {a b c : Rat} (hb : 0 < b) (h : a < c * b) : a / b < c := (Rat.div_lt_iff hb).mpr h
theorem div_key {m m' Q X : Nat} {e e' E : Int} (hE : E = e - e' - X) : ((Q : Nat) : Rat) * pw E * ((m' : Rat) * pw e') = ((Q * m' : Nat) : Rat) * pw (e - X) ∧ (m : Rat) * pw e = ((m * 2 ^ X : Nat) : Rat) * pw (e - X) := by
  constructor
  · have : pw (e - X) = pw E * pw e' := by rw [← pw_add]; congr 1; omega
    rw [this, Rat.natCast_mul]; grind
  · have h : pw e = pw (e - X + (X : Int)) := by congr 1; omega
    rw [h, liftn]
theorem div_exact (w : World) {p : Nat} {x : String} {dn : Bool} (M : Mode w x 0 dn) (hp : 1 ≤ p) {m m' X : Nat} {e e' : Int} (hm : 0 < m) (hm' : 0 < m') (hr : m * 2 ^ X % m' = 0) :
    Spec PP w (KK w) 3 "normalize" [.int 0, .int ((m * 2 ^ X / m' : Nat) : Int), .int (e - e' - X), .int (bl (m * 2 ^ X / m')), .int p, .str x] (Rounded 0 p dn (m * pw e / (m' * pw e'))) := by
  have hd : m * 2 ^ X / m' * m' = m * 2 ^ X := Nat.div_mul_cancel (Nat.dvd_of_mod_eq_zero hr)
  have hN : 0 < m * 2 ^ X := Nat.mul_pos hm (Nat.two_pow_pos X)
  have hQ : 0 < m * 2 ^ X / m' := by
    rcases Nat.eq_zero_or_pos (m * 2 ^ X / m') with h | h
    · rw [h, Nat.zero_mul] at hd; omega
    · exact h
  have hu : (0 : Rat) < m' * pw e' := Rat.mul_pos (Rat.natCast_pos.mpr hm') (pw_pos e')
  obtain ⟨k1, k2⟩ := div_key (m := m) (m' := m') (Q := m * 2 ^ X / m') (e := e) (e' := e') (X := X) rfl
  rw [← eq_div hu (by rw [k1, k2, hd])]
  exact norm_m w M hQ hp
theorem div_inexact (w : World) {p : Nat} {x : String} {dn : Bool} (M : Mode w x 0 dn) (hp : 1 ≤ p) {m m' X : Nat} {e e' : Int} (hm : 0 < m) (hm' : 0 < m') (hr : m * 2 ^ X % m' ≠ 0) (hx : p + bl m' + 1 ≤ bl m + X) :
    Spec PP w (KK w) 3 "normalize" [.int 0, .int ((2 * (m * 2 ^ X / m') + 1 : Nat) : Int), .int (e - e' - ((X + 1 : Nat) : Int)), .int (bl (2 * (m * 2 ^ X / m') + 1)), .int p, .str x] (Rounded 0 p dn (m * pw e / (m' * pw e'))) := by
  have hu : (0 : Rat) < m' * pw e' := Rat.mul_pos (Rat.natCast_pos.mpr hm') (pw_pos e')
  have hq := quot_bits hm hm' hx
  have hd := Nat.div_add_mod (m * 2 ^ X) m'
  have hlt := Nat.mod_lt (m * 2 ^ X) hm'
  generalize hQ : m * 2 ^ X / m' = Q at *
  generalize hR : m * 2 ^ X % m' = R at *
  refine (norm_m w M (by omega) hp).mono fun d hd' => ?_
  obtain ⟨M', E', nf, D⟩ := hd'
  refine ⟨M', E', nf, D.sticky (by omega) (lt_divd hu ?_) (divd_lt hu ?_) nf.2.2⟩
  · obtain ⟨k1, k2⟩ := div_key (m := m) (m' := m') (Q := 2 * Q) (e := e) (e' := e') (X := X + 1) rfl
    rw [k1, k2, clt, Nat.pow_succ, ← Nat.mul_assoc, ← hd, Nat.mul_comm m' Q, Nat.mul_assoc 2]
    omega
  · obtain ⟨k1, k2⟩ := div_key (m := m) (m' := m') (Q := 2 * Q + 2) (e := e) (e' := e') (X := X + 1) rfl
    have hz : (2 * Q + 2) * m' = m' * Q * 2 + 2 * m' := by grind
    rw [k1, k2, clt, Nat.pow_succ, ← Nat.mul_assoc, ← hd, hz]
    omega
theorem div_spec (w : World) {p p1 p2 : Nat} {x : String} {dn : Bool} {v u : Rat} {d d' : D} (M : Mode w x 0 dn) (hp : 1 ≤ p) (h : Pos p1 v d) (h' : Pos p2 u d') (hB : p ≤ 2000 ∧ p1 ≤ 2000 ∧ p2 ≤ 2000) :
    Spec PP w (KK w) 4 "mpf_div" [d, d', .int p, .str x] (Rounded 0 p dn (v / u)) := by
  obtain ⟨m, e, ⟨rfl, ho, hp1⟩, rfl⟩ := h
  obtain ⟨m', e', ⟨rfl, ho', hp2⟩, rfl⟩ := h'
  have hm : 0 < m := by omega
  have hm' : 0 < m' := by omega
  have b1 := bl_ge1 hm
  have z1 : ((m : Int) = 0) = False := eq_false (by omega)
  have z2 : ((m' : Int) = 0) = False := eq_false (by omega)
  have z3 : ((p : Int) = 0) = False := eq_false (by omega)
  have tail : ∀ (X : Nat), 5 ≤ X → p + bl m' + 5 ≤ bl m + X → X ≤ 10000 →
      if ((m : Int) * 2 ^ X).fmod m' = 0 then
        Known (KK w) (Str.ofString "normalize") ∧ Spec PP w (KK w) 3 (Str.ofString "normalize")
          [PyData.int (Builtin.bitXor 0 0), PyData.int (((m : Int) * 2 ^ X).fdiv m'), PyData.int (e - e' - X), PyData.int (Builtin.Int.intBits (((m : Int) * 2 ^ X).fdiv m')), PyData.int p, PyData.str (Str.ofString x)] (Rounded 0 p dn (m * pw e / (m' * pw e')))
      else
        (Builtin.Int.intBits (((m : Int) * 2 ^ X).fdiv m') : Int) + 1 ≤ 2 ^ 27 ∧
        Known (KK w) (Str.ofString "normalize") ∧ Spec PP w (KK w) 3 (Str.ofString "normalize")
          [PyData.int (Builtin.bitXor 0 0), PyData.int (((m : Int) * 2 ^ X).fdiv m' * 2 ^ 1 + 1), PyData.int (e - e' - ((X + 1 : Nat) : Int)), PyData.int (Builtin.Int.intBits (((m : Int) * 2 ^ X).fdiv m' * 2 ^ 1 + 1)), PyData.int p, PyData.str (Str.ofString x)] (Rounded 0 p dn (m * pw e / (m' * pw e'))) := by
    intro X h5 hX hXb
    have c1 : (m : Int) * 2 ^ X = ((m * 2 ^ X : Nat) : Int) := by push_cast; rfl
    have c2 : ((m * 2 ^ X / m' : Nat) : Int) * 2 ^ 1 + 1 = ((2 * (m * 2 ^ X / m') + 1 : Nat) : Int) := by omega
    rw [c1, fmod_nat, fdiv_nat, c2, bitXor_self]
    split
    · rename_i hr
      exact ⟨known_norm w, div_exact w M hp hm hm' (by omega)⟩
    · rename_i hr
      refine ⟨?_, known_norm w, div_inexact w M hp hm hm' (by omega) (by omega)⟩
      have : bl (m * 2 ^ X / m') ≤ bl m + X := by
        rw [← bl_shift hm]; exact bl_mono (Nat.div_le_self _ _)
      show ((bl (m * 2 ^ X / m') : Nat) : Int) + 1 ≤ _
      omega
  (refine spec_defk (gok _) (d_mpf_div w) ?_; (conv => arg 7; whnf); (conv => arg 5; whnf); (conv => arg 8; simp only [List.cons_append, List.nil_append, List.zip_cons_cons, List.zip_nil_left, List.zip_nil_right, List.append_nil]); (conv => arg 6; unfold GT))
  unfold fl
  simp only [↓s_nil, ↓s_cons, ↓s_pass, ↓s_brk, ↓s_ret, ↓s_asg, ↓s_tup, ↓s_aug, ↓s_if, ↓s_assert, ↓asg_nil, ↓asg_cons, ↓e_int, ↓e_str, ↓e_bool, ↓e_name, ↓e_bin, ↓e_un, ↓e_bool2, ↓e_if, ↓e_cmp, ↓e_call, ↓e_bits, ↓e_sub, ↓e_tup, ↓t_not, ↓t_bool, ↓t_if, ↓t_cmp, ↓t_name, ↓t_call, ↓t_bin, ↓t_const, ↓t_sub, ↓es_nil, ↓es_cons, ↓b_one, ↓b_and, ↓b_or, ↓a_nil_and, ↓a_nil_or, ↓a_and, ↓a_or, ↓c_one, ↓c_more, ↓d_one, ↓d_more, ↓tupk_tup, ↓intk_int, ↓ksq_next, ↓ksq_ret, ↓ksq_brk, ↓ksq_cont, ↓kdf_ret, ↓kdf_next, ↓klp_next, ↓klp_cont, ↓klp_brk, ↓klp_ret, ↓vl_cons, ↓vl_nil, ↓vg_cons, ↓vl0_cons, ↓upk_nil, ↓upk_cons, ↓bv_add, ↓bv_sub, ↓bv_mul, ↓bv_fdiv, ↓bv_mod, ↓bv_shl, ↓bv_shr, ↓bv_and, ↓bv_xor, ↓bv_pow, ↓av_add, ↓av_sub, ↓av_mul, ↓av_shl, ↓av_shr, ↓av_xor, ↓cv_eq, ↓cv_ne, ↓cv_lt, ↓cv_le, ↓cv_gt, ↓cv_ge, ↓cv_str, ↓cv_tup, ↓cv_in, ↓cv_instr, ↓tr_bool, ↓tr_int, ↓uv_neg, ↓uv_not, ↓br_dec, ↓br_tt, ↓br_ff, ↓br_not, ↓sub2_0, ↓sub2_1, ↓sub4_0, ok_name, ok_call, isG_eq, isL_eq, gk_cons, lc_cons, kg, kl, ↓reduceIte, List.all_cons, List.all_nil, List.isEmpty_cons, nstar, nset, nslice, ncall, ncomp, Bool.and_true, Bool.true_and, Bool.not_false, Bool.not_true, and_true, true_and, ne_eq, not_true, not_false_eq_true, List.length_cons, List.length_nil, ite_not, beq_self_eq_true, decide_false, decide_true, Bool.false_eq_true, ↓String.reduceEq, ↓String.reduceNe, Int.reduceLT, Int.reduceLE, Int.reduceGT, Int.reduceGE, Int.reduceEq, Int.reduceNe, Int.reduceNeg, Int.reduceAdd, Int.reduceSub, Int.reduceMul, Int.reduceToNat, Nat.reduceLT, Nat.reduceLeDiff, Nat.reduceAdd, Nat.reduceMul, Nat.reduceEqDiff, z1, z2, z3, if_false]
  have hlog : ((m' : Int)).natAbs.log2 < 9000 := Nat.lt_of_lt_of_le (log2_lt_of_bl hp2) (by omega)
  split
  · rename_i h1
    have : m' = 1 := by omega
    subst this
    refine ⟨known_norm w, ?_⟩
    rw [bitXor_self]
    have hv : (m : Rat) * pw e / (((1 : Nat) : Rat) * pw e') = m * pw (e - e') := by
      refine (eq_div (Rat.mul_pos (by decide) (pw_pos e')) ?_).symm
      have : pw e = pw (e - e') * pw e' := by rw [← pw_add]; congr 1; omega
      rw [this]; have : ((1 : Nat) : Rat) = 1 := rfl; grind
    rw [hv]
    exact norm_m w M hm hp
  · split
    · rename_i h1 h2
      refine ⟨known_divmod w, ?_, (divmod_spec w (by omega) hlog).mono fun d hd => ?_⟩
      · show ((bl m : Nat) : Int) + 5 ≤ _; omega
      · subst hd
        simp only [↓s_nil, ↓s_cons, ↓s_pass, ↓s_brk, ↓s_ret, ↓s_asg, ↓s_tup, ↓s_aug, ↓s_if, ↓s_assert, ↓asg_nil, ↓asg_cons, ↓e_int, ↓e_str, ↓e_bool, ↓e_name, ↓e_bin, ↓e_un, ↓e_bool2, ↓e_if, ↓e_cmp, ↓e_call, ↓e_bits, ↓e_sub, ↓e_tup, ↓t_not, ↓t_bool, ↓t_if, ↓t_cmp, ↓t_name, ↓t_call, ↓t_bin, ↓t_const, ↓t_sub, ↓es_nil, ↓es_cons, ↓b_one, ↓b_and, ↓b_or, ↓a_nil_and, ↓a_nil_or, ↓a_and, ↓a_or, ↓c_one, ↓c_more, ↓d_one, ↓d_more, ↓tupk_tup, ↓intk_int, ↓ksq_next, ↓ksq_ret, ↓ksq_brk, ↓ksq_cont, ↓kdf_ret, ↓kdf_next, ↓klp_next, ↓klp_cont, ↓klp_brk, ↓klp_ret, ↓vl_cons, ↓vl_nil, ↓vg_cons, ↓vl0_cons, ↓upk_nil, ↓upk_cons, ↓bv_add, ↓bv_sub, ↓bv_mul, ↓bv_fdiv, ↓bv_mod, ↓bv_shl, ↓bv_shr, ↓bv_and, ↓bv_xor, ↓bv_pow, ↓av_add, ↓av_sub, ↓av_mul, ↓av_shl, ↓av_shr, ↓av_xor, ↓cv_eq, ↓cv_ne, ↓cv_lt, ↓cv_le, ↓cv_gt, ↓cv_ge, ↓cv_str, ↓cv_tup, ↓cv_in, ↓cv_instr, ↓tr_bool, ↓tr_int, ↓uv_neg, ↓uv_not, ↓br_dec, ↓br_tt, ↓br_ff, ↓br_not, ↓sub2_0, ↓sub2_1, ↓sub4_0, ok_name, ok_call, isG_eq, isL_eq, gk_cons, lc_cons, kg, kl, ↓reduceIte, List.all_cons, List.all_nil, List.isEmpty_cons, nstar, nset, nslice, ncall, ncomp, Bool.and_true, Bool.true_and, Bool.not_false, Bool.not_true, and_true, true_and, ne_eq, not_true, not_false_eq_true, List.length_cons, List.length_nil, ite_not, beq_self_eq_true, decide_false, decide_true, Bool.false_eq_true, ↓String.reduceEq, ↓String.reduceNe, Int.reduceLT, Int.reduceLE, Int.reduceGT, Int.reduceGE, Int.reduceEq, Int.reduceNe, Int.reduceNeg, Int.reduceAdd, Int.reduceSub, Int.reduceMul, Int.reduceToNat, Nat.reduceLT, Nat.reduceLeDiff, Nat.reduceAdd, Nat.reduceMul, Nat.reduceEqDiff, z1, z2, z3, if_false]
        have := tail 5 (by omega) (by omega) (by omega)
        exact this
    · rename_i h1 h2
      have hX : (p : Int) - bl m + bl m' + 5 = ((((p : Int) - bl m + bl m' + 5).toNat : Nat) : Int) := by omega
      rw [hX]
      refine ⟨known_divmod w, ⟨by omega, ?_⟩, (divmod_spec w (by omega) hlog).mono fun d hd => ?_⟩
      · show ((bl m : Nat) : Int) + _ ≤ _; omega
      · subst hd
        simp only [↓s_nil, ↓s_cons, ↓s_pass, ↓s_brk, ↓s_ret, ↓s_asg, ↓s_tup, ↓s_aug, ↓s_if, ↓s_assert, ↓asg_nil, ↓asg_cons, ↓e_int, ↓e_str, ↓e_bool, ↓e_name, ↓e_bin, ↓e_un, ↓e_bool2, ↓e_if, ↓e_cmp, ↓e_call, ↓e_bits, ↓e_sub, ↓e_tup, ↓t_not, ↓t_bool, ↓t_if, ↓t_cmp, ↓t_name, ↓t_call, ↓t_bin, ↓t_const, ↓t_sub, ↓es_nil, ↓es_cons, ↓b_one, ↓b_and, ↓b_or, ↓a_nil_and, ↓a_nil_or, ↓a_and, ↓a_or, ↓c_one, ↓c_more, ↓d_one, ↓d_more, ↓tupk_tup, ↓intk_int, ↓ksq_next, ↓ksq_ret, ↓ksq_brk, ↓ksq_cont, ↓kdf_ret, ↓kdf_next, ↓klp_next, ↓klp_cont, ↓klp_brk, ↓klp_ret, ↓vl_cons, ↓vl_nil, ↓vg_cons, ↓vl0_cons, ↓upk_nil, ↓upk_cons, ↓bv_add, ↓bv_sub, ↓bv_mul, ↓bv_fdiv, ↓bv_mod, ↓bv_shl, ↓bv_shr, ↓bv_and, ↓bv_xor, ↓bv_pow, ↓av_add, ↓av_sub, ↓av_mul, ↓av_shl, ↓av_shr, ↓av_xor, ↓cv_eq, ↓cv_ne, ↓cv_lt, ↓cv_le, ↓cv_gt, ↓cv_ge, ↓cv_str, ↓cv_tup, ↓cv_in, ↓cv_instr, ↓tr_bool, ↓tr_int, ↓uv_neg, ↓uv_not, ↓br_dec, ↓br_tt, ↓br_ff, ↓br_not, ↓sub2_0, ↓sub2_1, ↓sub4_0, ok_name, ok_call, isG_eq, isL_eq, gk_cons, lc_cons, kg, kl, ↓reduceIte, List.all_cons, List.all_nil, List.isEmpty_cons, nstar, nset, nslice, ncall, ncomp, Bool.and_true, Bool.true_and, Bool.not_false, Bool.not_true, and_true, true_and, ne_eq, not_true, not_false_eq_true, List.length_cons, List.length_nil, ite_not, beq_self_eq_true, decide_false, decide_true, Bool.false_eq_true, ↓String.reduceEq, ↓String.reduceNe, Int.reduceLT, Int.reduceLE, Int.reduceGT, Int.reduceGE, Int.reduceEq, Int.reduceNe, Int.reduceNeg, Int.reduceAdd, Int.reduceSub, Int.reduceMul, Int.reduceToNat, Nat.reduceLT, Nat.reduceLeDiff, Nat.reduceAdd, Nat.reduceMul, Nat.reduceEqDiff, z1, z2, z3, if_false]
        have := tail (((p : Int) - bl m + bl m' + 5).toNat) (by omega) (by omega) (by omega)
        rw [Int.toNat_natCast]
        exact this
end Mine

end
section
open PySem PySem.W PyProof.Rows PySem.Calls
set_option maxRecDepth 100000
namespace Mine
/-- the loop's state: what is between the root and the first guess -/
def IsqI (x R0 : Nat) (m : Nat) (ρ : Ev) : Prop := ∃ r : Nat, 0 < r ∧ r ≤ R0 ∧ x < (r + 1) * (r + 1) ∧ m = r ∧
  (ρ = ([(Str.ofString "x", PyData.int x), (Str.ofString "r", PyData.int r)] : Ev) ∨ ∃ y, ρ = ([(Str.ofString "x", PyData.int x), (Str.ofString "r", PyData.int r), (Str.ofString "y", PyData.int y)] : Ev))
theorem newton {x r : Nat} (hr : 0 < r) : x < ((r + x / r) / 2 + 1) * ((r + x / r) / 2 + 1) := by
  have h1 := Nat.div_add_mod x r
  have h2 := Nat.mod_lt x hr
  generalize hq : x / r = q at *
  generalize hy : (r + q) / 2 = y at *
  have h3 : r + q + 1 ≤ 2 * (y + 1) := by omega
  have h4 : x < r * (q + 1) := by rw [Nat.mul_add]; omega
  have h5 : (r + q + 1) * (r + q + 1) ≤ (2 * (y + 1)) * (2 * (y + 1)) := Nat.mul_le_mul h3 h3
  have h6 : 4 * (r * (q + 1)) ≤ (r + q + 1) * (r + q + 1) := by
    have e : (r + q + 1) = r + (q + 1) := by omega
    rw [e]
    generalize q + 1 = s
    have : (r + s) * (r + s) = r * r + 2 * (r * s) + s * s := by grind
    rw [this]
    rcases Nat.le_total r s with h | h
    · obtain ⟨k, rfl⟩ := Nat.exists_eq_add_of_le h; grind
    · obtain ⟨k, rfl⟩ := Nat.exists_eq_add_of_le h; grind
  have h7 : (2 * (y + 1)) * (2 * (y + 1)) = 4 * ((y + 1) * (y + 1)) := by grind
  omega
def RootOf (x : Nat) (d : D) : Prop := ∃ r : Nat, d = .int r ∧ r * r ≤ x ∧ x < (r + 1) * (r + 1)
theorem known_isqrt_small (w : World) : Known (KK w) (Str.ofString "isqrt_small") := (d_isqrt_small w).known
theorem isqrt_small_spec (w : World) {x : Nat} (hx : 0 < x) (hb : bl x ≤ 16000) : Spec PP w (KK w) 1 "isqrt_small" [.int x] (RootOf x) := by
  (refine spec_defk (gok _) (d_isqrt_small w) ?_; (conv => arg 7; whnf); (conv => arg 5; whnf); (conv => arg 8; simp only [List.cons_append, List.nil_append, List.zip_cons_cons, List.zip_nil_left, List.zip_nil_right, List.append_nil]); (conv => arg 6; unfold GT))
  have z1 : ((x : Int) = 0) = False := eq_false (by omega)
  simp only [↓s_nil, ↓s_cons, ↓s_pass, ↓s_brk, ↓s_ret, ↓s_asg, ↓s_tup, ↓s_aug, ↓s_if, ↓s_assert, ↓asg_nil, ↓asg_cons, ↓e_int, ↓e_str, ↓e_bool, ↓e_name, ↓e_bin, ↓e_un, ↓e_bool2, ↓e_if, ↓e_cmp, ↓e_call, ↓e_bits, ↓e_sub, ↓e_tup, ↓t_not, ↓t_bool, ↓t_if, ↓t_cmp, ↓t_name, ↓t_call, ↓t_bin, ↓t_const, ↓t_sub, ↓es_nil, ↓es_cons, ↓b_one, ↓b_and, ↓b_or, ↓a_nil_and, ↓a_nil_or, ↓a_and, ↓a_or, ↓c_one, ↓c_more, ↓d_one, ↓d_more, ↓tupk_tup, ↓intk_int, ↓ksq_next, ↓ksq_ret, ↓ksq_brk, ↓ksq_cont, ↓kdf_ret, ↓kdf_next, ↓klp_next, ↓klp_cont, ↓klp_brk, ↓klp_ret, ↓vl_cons, ↓vl_nil, ↓vg_cons, ↓vl0_cons, ↓upk_nil, ↓upk_cons, ↓bv_add, ↓bv_sub, ↓bv_mul, ↓bv_fdiv, ↓bv_mod, ↓bv_shl, ↓bv_shr, ↓bv_and, ↓bv_xor, ↓bv_pow, ↓av_add, ↓av_sub, ↓av_mul, ↓av_shl, ↓av_shr, ↓av_xor, ↓cv_eq, ↓cv_ne, ↓cv_lt, ↓cv_le, ↓cv_gt, ↓cv_ge, ↓cv_str, ↓cv_tup, ↓cv_in, ↓cv_instr, ↓tr_bool, ↓tr_int, ↓uv_neg, ↓uv_not, ↓br_dec, ↓br_tt, ↓br_ff, ↓br_not, ↓sub2_0, ↓sub2_1, ↓sub4_0, ok_name, ok_call, isG_eq, isL_eq, gk_cons, lc_cons, kg, kl, ↓reduceIte, List.all_cons, List.all_nil, List.isEmpty_cons, nstar, nset, nslice, ncall, ncomp, Bool.and_true, Bool.true_and, Bool.not_false, Bool.not_true, and_true, true_and, ne_eq, not_true, not_false_eq_true, List.length_cons, List.length_nil, ite_not, beq_self_eq_true, decide_false, decide_true, Bool.false_eq_true, ↓String.reduceEq, ↓String.reduceNe, Int.reduceLT, Int.reduceLE, Int.reduceGT, Int.reduceGE, Int.reduceEq, Int.reduceNe, Int.reduceNeg, Int.reduceAdd, Int.reduceSub, Int.reduceMul, Int.reduceToNat, Nat.reduceLT, Nat.reduceLeDiff, Nat.reduceAdd, Nat.reduceMul, Nat.reduceEqDiff, z1]
  have c0 : ((Builtin.Int.intBits (x : Int) : Int) + 1).fdiv (2 ^ 1) = (((bl x + 1) / 2 : Nat) : Int) := by
    show (((bl x : Nat) : Int) + 1).fdiv (2 ^ 1) = _
    rw [show ((bl x : Nat) : Int) + 1 = ((bl x + 1 : Nat) : Int) by omega, two_cast, fdiv_nat]
  rw [c0]
  refine ⟨⟨by omega, ?_⟩, ?_⟩
  · show ((bl 1 : Nat) : Int) + _ ≤ _; rw [bl_one]; omega
  rw [Int.toNat_natCast, Int.one_mul, two_cast, s_while]
  have hR0 : 2 ^ ((bl x + 1) / 2) < 2 ^ 8001 := Nat.pow_lt_pow_right (by decide) (by omega)
  refine ⟨IsqI x (2 ^ ((bl x + 1) / 2)), ⟨_, 2 ^ ((bl x + 1) / 2), Nat.two_pow_pos _, Nat.le_refl _, ?_, rfl, .inl rfl⟩, ?_⟩
  · have a1 := bl_up x
    have a2 : 2 ^ bl x ≤ 2 ^ ((bl x + 1) / 2) * 2 ^ ((bl x + 1) / 2) := by rw [← Nat.pow_add]; exact Nat.pow_le_pow_right (by decide) (by omega)
    have a3 := Nat.mul_le_mul (Nat.le_succ (2 ^ ((bl x + 1) / 2))) (Nat.le_succ (2 ^ ((bl x + 1) / 2)))
    exact Nat.lt_of_lt_of_le a1 (Nat.le_trans a2 a3)
  · rintro m ρ' ⟨r, hr, hr0, hxr, rfl, hρ⟩
    have hlog : ((m : Int)).natAbs.log2 < 9000 := Nat.lt_of_lt_of_le (log2_lt_of_bl (bl_le.mpr (Nat.lt_of_le_of_lt hr0 hR0))) (by omega)
    have hy : ((m : Int) + (x : Int).fdiv m).fdiv (2 ^ 1) = (((m + x / m) / 2 : Nat) : Int) := by
      rw [fdiv_nat, show (m : Int) + ((x / m : Nat) : Int) = ((m + x / m : Nat) : Int) by omega, two_cast, fdiv_nat]
    have hn := newton (x := x) hr
    have hend : m ≤ (m + x / m) / 2 → m * m ≤ x := fun h => by
      have : m ≤ x / m := by omega
      have := Nat.mul_le_mul_left m this
      exact Nat.le_trans this (Nat.mul_div_le x m)
    have hpos : 0 < (m + x / m) / 2 ∨ m * m ≤ x := by
      rcases Nat.lt_or_ge m 2 with h | h
      · right
        have : m = 1 := by omega
        subst this; omega
      · left; clear hlog hy hn hend hR0; generalize x / m = q; omega
    rcases hρ with rfl | ⟨y, rfl⟩
    all_goals
      simp only [↓s_nil, ↓s_cons, ↓s_pass, ↓s_brk, ↓s_ret, ↓s_asg, ↓s_tup, ↓s_aug, ↓s_if, ↓s_assert, ↓asg_nil, ↓asg_cons, ↓e_int, ↓e_str, ↓e_bool, ↓e_name, ↓e_bin, ↓e_un, ↓e_bool2, ↓e_if, ↓e_cmp, ↓e_call, ↓e_bits, ↓e_sub, ↓e_tup, ↓t_not, ↓t_bool, ↓t_if, ↓t_cmp, ↓t_name, ↓t_call, ↓t_bin, ↓t_const, ↓t_sub, ↓es_nil, ↓es_cons, ↓b_one, ↓b_and, ↓b_or, ↓a_nil_and, ↓a_nil_or, ↓a_and, ↓a_or, ↓c_one, ↓c_more, ↓d_one, ↓d_more, ↓tupk_tup, ↓intk_int, ↓ksq_next, ↓ksq_ret, ↓ksq_brk, ↓ksq_cont, ↓kdf_ret, ↓kdf_next, ↓klp_next, ↓klp_cont, ↓klp_brk, ↓klp_ret, ↓vl_cons, ↓vl_nil, ↓vg_cons, ↓vl0_cons, ↓upk_nil, ↓upk_cons, ↓bv_add, ↓bv_sub, ↓bv_mul, ↓bv_fdiv, ↓bv_mod, ↓bv_shl, ↓bv_shr, ↓bv_and, ↓bv_xor, ↓bv_pow, ↓av_add, ↓av_sub, ↓av_mul, ↓av_shl, ↓av_shr, ↓av_xor, ↓cv_eq, ↓cv_ne, ↓cv_lt, ↓cv_le, ↓cv_gt, ↓cv_ge, ↓cv_str, ↓cv_tup, ↓cv_in, ↓cv_instr, ↓tr_bool, ↓tr_int, ↓uv_neg, ↓uv_not, ↓br_dec, ↓br_tt, ↓br_ff, ↓br_not, ↓sub2_0, ↓sub2_1, ↓sub4_0, ok_name, ok_call, isG_eq, isL_eq, gk_cons, lc_cons, kg, kl, ↓reduceIte, List.all_cons, List.all_nil, List.isEmpty_cons, nstar, nset, nslice, ncall, ncomp, Bool.and_true, Bool.true_and, Bool.not_false, Bool.not_true, and_true, true_and, ne_eq, not_true, not_false_eq_true, List.length_cons, List.length_nil, ite_not, beq_self_eq_true, decide_false, decide_true, Bool.false_eq_true, ↓String.reduceEq, ↓String.reduceNe, Int.reduceLT, Int.reduceLE, Int.reduceGT, Int.reduceGE, Int.reduceEq, Int.reduceNe, Int.reduceNeg, Int.reduceAdd, Int.reduceSub, Int.reduceMul, Int.reduceToNat, Nat.reduceLT, Nat.reduceLeDiff, Nat.reduceAdd, Nat.reduceMul, Nat.reduceEqDiff]
      refine ⟨⟨by omega, hlog⟩, ?_⟩
      rw [hy]
      split
      · rename_i h
        exact ⟨m, rfl, hend (by omega), hxr⟩
      · rename_i h
        refine ⟨(m + x / m) / 2, by omega, (m + x / m) / 2, ?_, by omega, hn, rfl, .inr ⟨_, rfl⟩⟩
        rcases Nat.eq_zero_or_pos ((m + x / m) / 2) with h0 | h0
        · rw [h0] at hn; omega
        · exact h0
/-- a root and the rest -/
def RootRem (x : Nat) (d : D) : Prop := ∃ r : Nat, d = .tuple [.int r, .int ((x : Int) - (r : Int) * r)] ∧ r * r ≤ x ∧ x < (r + 1) * (r + 1)
theorem known_sqrtrem (w : World) : Known (KK w) (Str.ofString "sqrtrem") := (d_sqrtrem w).known
theorem sqrtrem_spec (w : World) {x : Nat} (hx : 0 < x) (hb : bl x ≤ 16000) : Spec PP w (KK w) 2 "sqrtrem" [.int x] (RootRem x) := by
  (refine spec_defk (gok _) (d_sqrtrem w) ?_; (conv => arg 7; whnf); (conv => arg 5; whnf); (conv => arg 8; simp only [List.cons_append, List.nil_append, List.zip_cons_cons, List.zip_nil_left, List.zip_nil_right, List.append_nil]); (conv => arg 6; unfold GT))
  simp only [↓s_nil, ↓s_cons, ↓s_pass, ↓s_brk, ↓s_ret, ↓s_asg, ↓s_tup, ↓s_aug, ↓s_if, ↓s_assert, ↓asg_nil, ↓asg_cons, ↓e_int, ↓e_str, ↓e_bool, ↓e_name, ↓e_bin, ↓e_un, ↓e_bool2, ↓e_if, ↓e_cmp, ↓e_call, ↓e_bits, ↓e_sub, ↓e_tup, ↓t_not, ↓t_bool, ↓t_if, ↓t_cmp, ↓t_name, ↓t_call, ↓t_bin, ↓t_const, ↓t_sub, ↓es_nil, ↓es_cons, ↓b_one, ↓b_and, ↓b_or, ↓a_nil_and, ↓a_nil_or, ↓a_and, ↓a_or, ↓c_one, ↓c_more, ↓d_one, ↓d_more, ↓tupk_tup, ↓intk_int, ↓ksq_next, ↓ksq_ret, ↓ksq_brk, ↓ksq_cont, ↓kdf_ret, ↓kdf_next, ↓klp_next, ↓klp_cont, ↓klp_brk, ↓klp_ret, ↓vl_cons, ↓vl_nil, ↓vg_cons, ↓vl0_cons, ↓upk_nil, ↓upk_cons, ↓bv_add, ↓bv_sub, ↓bv_mul, ↓bv_fdiv, ↓bv_mod, ↓bv_shl, ↓bv_shr, ↓bv_and, ↓bv_xor, ↓bv_pow, ↓av_add, ↓av_sub, ↓av_mul, ↓av_shl, ↓av_shr, ↓av_xor, ↓cv_eq, ↓cv_ne, ↓cv_lt, ↓cv_le, ↓cv_gt, ↓cv_ge, ↓cv_str, ↓cv_tup, ↓cv_in, ↓cv_instr, ↓tr_bool, ↓tr_int, ↓uv_neg, ↓uv_not, ↓br_dec, ↓br_tt, ↓br_ff, ↓br_not, ↓sub2_0, ↓sub2_1, ↓sub4_0, ok_name, ok_call, isG_eq, isL_eq, gk_cons, lc_cons, kg, kl, ↓reduceIte, List.all_cons, List.all_nil, List.isEmpty_cons, nstar, nset, nslice, ncall, ncomp, Bool.and_true, Bool.true_and, Bool.not_false, Bool.not_true, and_true, true_and, ne_eq, not_true, not_false_eq_true, List.length_cons, List.length_nil, ite_not, beq_self_eq_true, decide_false, decide_true, Bool.false_eq_true, ↓String.reduceEq, ↓String.reduceNe, Int.reduceLT, Int.reduceLE, Int.reduceGT, Int.reduceGE, Int.reduceEq, Int.reduceNe, Int.reduceNeg, Int.reduceAdd, Int.reduceSub, Int.reduceMul, Int.reduceToNat, Nat.reduceLT, Nat.reduceLeDiff, Nat.reduceAdd, Nat.reduceMul, Nat.reduceEqDiff]
  refine ⟨known_isqrt_small w, (isqrt_small_spec w hx hb).mono fun d hd => ?_⟩
  obtain ⟨r, rfl, h1, h2⟩ := hd
  simp only [↓s_nil, ↓s_cons, ↓s_pass, ↓s_brk, ↓s_ret, ↓s_asg, ↓s_tup, ↓s_aug, ↓s_if, ↓s_assert, ↓asg_nil, ↓asg_cons, ↓e_int, ↓e_str, ↓e_bool, ↓e_name, ↓e_bin, ↓e_un, ↓e_bool2, ↓e_if, ↓e_cmp, ↓e_call, ↓e_bits, ↓e_sub, ↓e_tup, ↓t_not, ↓t_bool, ↓t_if, ↓t_cmp, ↓t_name, ↓t_call, ↓t_bin, ↓t_const, ↓t_sub, ↓es_nil, ↓es_cons, ↓b_one, ↓b_and, ↓b_or, ↓a_nil_and, ↓a_nil_or, ↓a_and, ↓a_or, ↓c_one, ↓c_more, ↓d_one, ↓d_more, ↓tupk_tup, ↓intk_int, ↓ksq_next, ↓ksq_ret, ↓ksq_brk, ↓ksq_cont, ↓kdf_ret, ↓kdf_next, ↓klp_next, ↓klp_cont, ↓klp_brk, ↓klp_ret, ↓vl_cons, ↓vl_nil, ↓vg_cons, ↓vl0_cons, ↓upk_nil, ↓upk_cons, ↓bv_add, ↓bv_sub, ↓bv_mul, ↓bv_fdiv, ↓bv_mod, ↓bv_shl, ↓bv_shr, ↓bv_and, ↓bv_xor, ↓bv_pow, ↓av_add, ↓av_sub, ↓av_mul, ↓av_shl, ↓av_shr, ↓av_xor, ↓cv_eq, ↓cv_ne, ↓cv_lt, ↓cv_le, ↓cv_gt, ↓cv_ge, ↓cv_str, ↓cv_tup, ↓cv_in, ↓cv_instr, ↓tr_bool, ↓tr_int, ↓uv_neg, ↓uv_not, ↓br_dec, ↓br_tt, ↓br_ff, ↓br_not, ↓sub2_0, ↓sub2_1, ↓sub4_0, ok_name, ok_call, isG_eq, isL_eq, gk_cons, lc_cons, kg, kl, ↓reduceIte, List.all_cons, List.all_nil, List.isEmpty_cons, nstar, nset, nslice, ncall, ncomp, Bool.and_true, Bool.true_and, Bool.not_false, Bool.not_true, and_true, true_and, ne_eq, not_true, not_false_eq_true, List.length_cons, List.length_nil, ite_not, beq_self_eq_true, decide_false, decide_true, Bool.false_eq_true, ↓String.reduceEq, ↓String.reduceNe, Int.reduceLT, Int.reduceLE, Int.reduceGT, Int.reduceGE, Int.reduceEq, Int.reduceNe, Int.reduceNeg, Int.reduceAdd, Int.reduceSub, Int.reduceMul, Int.reduceToNat, Nat.reduceLT, Nat.reduceLeDiff, Nat.reduceAdd, Nat.reduceMul, Nat.reduceEqDiff]
  have hr : bl r ≤ 16000 := Nat.le_trans (bl_mono (Nat.le_trans (Nat.le_mul_self r) h1)) hb
  exact ⟨IntMulOk.of_le (m := 16000) (n := 16000) hr hr (by omega), r, rfl, h1, h2⟩
theorem known_isqrt (w : World) : Known (KK w) (Str.ofString "isqrt") := (d_isqrt w).known
theorem isqrt_spec (w : World) {x : Nat} (hx : 0 < x) (hb : bl x ≤ 16000) : Spec PP w (KK w) 3 "isqrt" [.int x] (RootOf x) := by
  (refine spec_defk (gok _) (d_isqrt w) ?_; (conv => arg 7; whnf); (conv => arg 5; whnf); (conv => arg 8; simp only [List.cons_append, List.nil_append, List.zip_cons_cons, List.zip_nil_left, List.zip_nil_right, List.append_nil]); (conv => arg 6; unfold GT))
  simp only [↓s_nil, ↓s_cons, ↓s_pass, ↓s_brk, ↓s_ret, ↓s_asg, ↓s_tup, ↓s_aug, ↓s_if, ↓s_assert, ↓asg_nil, ↓asg_cons, ↓e_int, ↓e_str, ↓e_bool, ↓e_name, ↓e_bin, ↓e_un, ↓e_bool2, ↓e_if, ↓e_cmp, ↓e_call, ↓e_bits, ↓e_sub, ↓e_tup, ↓t_not, ↓t_bool, ↓t_if, ↓t_cmp, ↓t_name, ↓t_call, ↓t_bin, ↓t_const, ↓t_sub, ↓es_nil, ↓es_cons, ↓b_one, ↓b_and, ↓b_or, ↓a_nil_and, ↓a_nil_or, ↓a_and, ↓a_or, ↓c_one, ↓c_more, ↓d_one, ↓d_more, ↓tupk_tup, ↓intk_int, ↓ksq_next, ↓ksq_ret, ↓ksq_brk, ↓ksq_cont, ↓kdf_ret, ↓kdf_next, ↓klp_next, ↓klp_cont, ↓klp_brk, ↓klp_ret, ↓vl_cons, ↓vl_nil, ↓vg_cons, ↓vl0_cons, ↓upk_nil, ↓upk_cons, ↓bv_add, ↓bv_sub, ↓bv_mul, ↓bv_fdiv, ↓bv_mod, ↓bv_shl, ↓bv_shr, ↓bv_and, ↓bv_xor, ↓bv_pow, ↓av_add, ↓av_sub, ↓av_mul, ↓av_shl, ↓av_shr, ↓av_xor, ↓cv_eq, ↓cv_ne, ↓cv_lt, ↓cv_le, ↓cv_gt, ↓cv_ge, ↓cv_str, ↓cv_tup, ↓cv_in, ↓cv_instr, ↓tr_bool, ↓tr_int, ↓uv_neg, ↓uv_not, ↓br_dec, ↓br_tt, ↓br_ff, ↓br_not, ↓sub2_0, ↓sub2_1, ↓sub4_0, ok_name, ok_call, isG_eq, isL_eq, gk_cons, lc_cons, kg, kl, ↓reduceIte, List.all_cons, List.all_nil, List.isEmpty_cons, nstar, nset, nslice, ncall, ncomp, Bool.and_true, Bool.true_and, Bool.not_false, Bool.not_true, and_true, true_and, ne_eq, not_true, not_false_eq_true, List.length_cons, List.length_nil, ite_not, beq_self_eq_true, decide_false, decide_true, Bool.false_eq_true, ↓String.reduceEq, ↓String.reduceNe, Int.reduceLT, Int.reduceLE, Int.reduceGT, Int.reduceGE, Int.reduceEq, Int.reduceNe, Int.reduceNeg, Int.reduceAdd, Int.reduceSub, Int.reduceMul, Int.reduceToNat, Nat.reduceLT, Nat.reduceLeDiff, Nat.reduceAdd, Nat.reduceMul, Nat.reduceEqDiff]
  refine ⟨known_sqrtrem w, (sqrtrem_spec w hx hb).mono fun d hd => ?_⟩
  obtain ⟨r, rfl, h1, h2⟩ := hd
  simp only [↓s_nil, ↓s_cons, ↓s_pass, ↓s_brk, ↓s_ret, ↓s_asg, ↓s_tup, ↓s_aug, ↓s_if, ↓s_assert, ↓asg_nil, ↓asg_cons, ↓e_int, ↓e_str, ↓e_bool, ↓e_name, ↓e_bin, ↓e_un, ↓e_bool2, ↓e_if, ↓e_cmp, ↓e_call, ↓e_bits, ↓e_sub, ↓e_tup, ↓t_not, ↓t_bool, ↓t_if, ↓t_cmp, ↓t_name, ↓t_call, ↓t_bin, ↓t_const, ↓t_sub, ↓es_nil, ↓es_cons, ↓b_one, ↓b_and, ↓b_or, ↓a_nil_and, ↓a_nil_or, ↓a_and, ↓a_or, ↓c_one, ↓c_more, ↓d_one, ↓d_more, ↓tupk_tup, ↓intk_int, ↓ksq_next, ↓ksq_ret, ↓ksq_brk, ↓ksq_cont, ↓kdf_ret, ↓kdf_next, ↓klp_next, ↓klp_cont, ↓klp_brk, ↓klp_ret, ↓vl_cons, ↓vl_nil, ↓vg_cons, ↓vl0_cons, ↓upk_nil, ↓upk_cons, ↓bv_add, ↓bv_sub, ↓bv_mul, ↓bv_fdiv, ↓bv_mod, ↓bv_shl, ↓bv_shr, ↓bv_and, ↓bv_xor, ↓bv_pow, ↓av_add, ↓av_sub, ↓av_mul, ↓av_shl, ↓av_shr, ↓av_xor, ↓cv_eq, ↓cv_ne, ↓cv_lt, ↓cv_le, ↓cv_gt, ↓cv_ge, ↓cv_str, ↓cv_tup, ↓cv_in, ↓cv_instr, ↓tr_bool, ↓tr_int, ↓uv_neg, ↓uv_not, ↓br_dec, ↓br_tt, ↓br_ff, ↓br_not, ↓sub2_0, ↓sub2_1, ↓sub4_0, ok_name, ok_call, isG_eq, isL_eq, gk_cons, lc_cons, kg, kl, ↓reduceIte, List.all_cons, List.all_nil, List.isEmpty_cons, nstar, nset, nslice, ncall, ncomp, Bool.and_true, Bool.true_and, Bool.not_false, Bool.not_true, and_true, true_and, ne_eq, not_true, not_false_eq_true, List.length_cons, List.length_nil, ite_not, beq_self_eq_true, decide_false, decide_true, Bool.false_eq_true, ↓String.reduceEq, ↓String.reduceNe, Int.reduceLT, Int.reduceLE, Int.reduceGT, Int.reduceGE, Int.reduceEq, Int.reduceNe, Int.reduceNeg, Int.reduceAdd, Int.reduceSub, Int.reduceMul, Int.reduceToNat, Nat.reduceLT, Nat.reduceLeDiff, Nat.reduceAdd, Nat.reduceMul, Nat.reduceEqDiff]
  exact ⟨r, rfl, h1, h2⟩
end Mine

end
section
open PySem PySem.W PyProof.Rows PySem.Calls
set_option maxRecDepth 100000
namespace Mine
theorem fd_f : Txt.contains (Str.ofString "fd") (Str.ofString "f") = true := by decide +kernel
theorem fd_c : Txt.contains (Str.ofString "fd") (Str.ofString "c") = false := by decide +kernel
theorem known_sqrt (w : World) : Known (KK w) (Str.ofString "mpf_sqrt") := (d_mpf_sqrt w).known
/-- the positive p-bit root of v, rounded -/
def RootF (p : Nat) (dn : Bool) (v : Rat) (d : D) : Prop := ∃ M E, NF d 0 M E p ∧ SDir dn p v (M * pw E)
theorem root_bits {A S p R : Nat} (hA : 0 < A) (h : 2 * p + 1 ≤ bl A + S) (h2 : A * 2 ^ S < (R + 1) * (R + 1)) : 2 ^ p ≤ R := by
  rcases Nat.lt_or_ge R (2 ^ p) with c | c
  · exfalso
    have a1 := Nat.mul_le_mul (show R + 1 ≤ 2 ^ p from c) (show R + 1 ≤ 2 ^ p from c)
    have a2 := Nat.mul_le_mul_right (2 ^ S) (bl_lo hA)
    rw [← Nat.pow_add] at a1 a2
    have a3 : 2 ^ (p + p) ≤ 2 ^ (bl A - 1 + S) := Nat.pow_le_pow_right (by decide) (by have := bl_ge1 hA; omega)
    omega
  · exact c
/-- the shift is even -/
theorem shift_even {p b : Nat} (hp : 1 ≤ p) (hp2 : p ≤ 200) : ∃ x s : Nat, (if 2 * (p : Int) - b + 4 > 4 then 2 * (p : Int) - b + 4 else 4) = (x : Int) ∧ (x : Int) + Builtin.bitAnd (x : Int) 1 = ((2 * s : Nat) : Int) ∧ 2 * p + 4 ≤ b + 2 * s ∧ 2 ≤ s ∧ s ≤ 210 := by
  have : ∀ x : Nat, 4 ≤ x → 2 * p + 4 ≤ b + x → x ≤ 405 → ∃ s : Nat, (x : Int) + Builtin.bitAnd (x : Int) 1 = ((2 * s : Nat) : Int) ∧ 2 * p + 4 ≤ b + 2 * s ∧ 2 ≤ s ∧ s ≤ 210 := by
    intro x h1 h2 h3
    rw [bitAnd_m1]
    exact ⟨(x + 1) / 2, by omega, by omega, by omega, by omega⟩
  split
  · obtain ⟨n, hn⟩ := Int.eq_ofNat_of_zero_le (show 0 ≤ 2 * (p : Int) - b + 4 by omega)
    obtain ⟨s, hs⟩ := this n (by omega) (by omega) (by omega)
    exact ⟨n, s, hn, hs⟩
  · obtain ⟨s, hs⟩ := this 4 (by omega) (by omega) (by omega)
    exact ⟨4, s, rfl, hs⟩
theorem val_shift {A S : Nat} {e s : Int} (h : (S : Int) = 2 * s) {E : Int} (he : e = 2 * E) : (A : Rat) * pw e = ((A * 2 ^ S : Nat) : Rat) * pw (2 * (E - s)) := by
  have : pw e = pw (2 * (E - s) + (S : Int)) := by congr 1; omega
  rw [this, liftn]
theorem sqrt_tail_f (w : World) {p A : Nat} {e E bA : Int} (hA : 0 < A) (hbA : bA = bl A) (hb : bl A ≤ 101) (hp : 1 ≤ p) (hp2 : p ≤ 200) (he : e = 2 * E) :
      Known (KK w) (Str.ofString "max") ∧
        IntMulOk 2 p ∧
          Spec PP w (KK w) 5 (Str.ofString "max") [PyData.int 4, PyData.int (2 * (p : Int) - bA + 4)] fun d =>
            binv Operator.BitAnd d (PyData.int 1) fun b =>
              augv Operator.Add d b fun d =>
                Known (KK w) (Str.ofString "isqrt") ∧
                  binv Operator.LShift (PyData.int A) d fun d_1 =>
                    Spec PP w (KK w) 5 (Str.ofString "isqrt") [d_1] fun d_2 =>
                      Known (KK w) (Str.ofString "from_man_exp") ∧
                        binv Operator.Sub (PyData.int e) d fun a =>
                          binv Operator.FloorDiv a (PyData.int 2) fun d =>
                            Spec PP w (KK w) 5 (Str.ofString "from_man_exp")
                              [d_2, d, PyData.int p, PyData.str (Str.ofString "f")] (RootF p true (A * pw e)) := by
  subst hbA
  refine ⟨known_max w, IntMulOk.of_le (m := 10) (n := 200) (by decide) (Nat.le_trans (bl_le.mpr Nat.lt_two_pow_self) hp2) (by decide), (max_spec w _ _).mono fun d hd => ?_⟩
  subst hd
  obtain ⟨x, s, hx, hs, h1, h2, h3⟩ := shift_even (b := bl A) hp hp2
  rw [hx]
  simp only [↓s_nil, ↓s_cons, ↓s_pass, ↓s_brk, ↓s_ret, ↓s_asg, ↓s_tup, ↓s_aug, ↓s_if, ↓s_assert, ↓asg_nil, ↓asg_cons, ↓e_int, ↓e_str, ↓e_bool, ↓e_name, ↓e_bin, ↓e_un, ↓e_bool2, ↓e_if, ↓e_cmp, ↓e_call, ↓e_bits, ↓e_sub, ↓e_tup, ↓t_not, ↓t_bool, ↓t_if, ↓t_cmp, ↓t_name, ↓t_call, ↓t_bin, ↓t_const, ↓t_sub, ↓es_nil, ↓es_cons, ↓b_one, ↓b_and, ↓b_or, ↓a_nil_and, ↓a_nil_or, ↓a_and, ↓a_or, ↓c_one, ↓c_more, ↓d_one, ↓d_more, ↓tupk_tup, ↓intk_int, ↓ksq_next, ↓ksq_ret, ↓ksq_brk, ↓ksq_cont, ↓kdf_ret, ↓kdf_next, ↓klp_next, ↓klp_cont, ↓klp_brk, ↓klp_ret, ↓vl_cons, ↓vl_nil, ↓vg_cons, ↓vl0_cons, ↓upk_nil, ↓upk_cons, ↓bv_add, ↓bv_sub, ↓bv_mul, ↓bv_fdiv, ↓bv_mod, ↓bv_shl, ↓bv_shr, ↓bv_and, ↓bv_xor, ↓bv_pow, ↓av_add, ↓av_sub, ↓av_mul, ↓av_shl, ↓av_shr, ↓av_xor, ↓cv_eq, ↓cv_ne, ↓cv_lt, ↓cv_le, ↓cv_gt, ↓cv_ge, ↓cv_str, ↓cv_tup, ↓cv_in, ↓cv_instr, ↓tr_bool, ↓tr_int, ↓uv_neg, ↓uv_not, ↓br_dec, ↓br_tt, ↓br_ff, ↓br_not, ↓sub2_0, ↓sub2_1, ↓sub4_0, ok_name, ok_call, isG_eq, isL_eq, gk_cons, lc_cons, kg, kl, ↓reduceIte, List.all_cons, List.all_nil, List.isEmpty_cons, nstar, nset, nslice, ncall, ncomp, Bool.and_true, Bool.true_and, Bool.not_false, Bool.not_true, and_true, true_and, ne_eq, not_true, not_false_eq_true, List.length_cons, List.length_nil, ite_not, beq_self_eq_true, decide_false, decide_true, Bool.false_eq_true, ↓String.reduceEq, ↓String.reduceNe, Int.reduceLT, Int.reduceLE, Int.reduceGT, Int.reduceGE, Int.reduceEq, Int.reduceNe, Int.reduceNeg, Int.reduceAdd, Int.reduceSub, Int.reduceMul, Int.reduceToNat, Nat.reduceLT, Nat.reduceLeDiff, Nat.reduceAdd, Nat.reduceMul, Nat.reduceEqDiff]
  rw [hs]
  refine ⟨known_isqrt w, ⟨by omega, ?_⟩, ?_⟩
  · show ((bl A : Nat) : Int) + _ ≤ _; omega
  rw [Int.toNat_natCast]
  have c1 : (A : Int) * 2 ^ (2 * s) = ((A * 2 ^ (2 * s) : Nat) : Int) := by push_cast; rfl
  rw [c1]
  have hN : 0 < A * 2 ^ (2 * s) := Nat.mul_pos hA (Nat.two_pow_pos _)
  refine (isqrt_spec w hN (by rw [bl_shift hA]; omega)).mono fun d hd => ?_
  obtain ⟨R, rfl, r1, r2⟩ := hd
  have hR := root_bits (p := p) hA (by omega) r2
  refine ⟨known_fme w, by decide, ?_⟩
  have c2 : (e - ((2 * s : Nat) : Int)).fdiv 2 = E - s := by
    rw [Int.fdiv_eq_ediv_of_nonneg _ (by decide)]; omega
  rw [c2]
  refine (fmep w (mode_f0 w) (by have := Nat.two_pow_pos p; omega) hp).mono fun d hd => ?_
  obtain ⟨M, E', nf, hd⟩ := hd
  exact ⟨M, E', nf, root_dn (val_shift (s := s) (by omega) he) r1 r2 hR hd⟩
theorem sqrt_f (w : World) {p N : Nat} {d : D} (hN : 0 < N) (hb : bl N ≤ 100) (hp : 1 ≤ p) (hp2 : p ≤ 200) (h : IsF 0 N 0 d) : Spec PP w (KK w) 6 "mpf_sqrt" [d, .int p, .str "f"] (RootF p true N) := by
  obtain ⟨q, t, hqt, hq, rfl⟩ := h
  have hq0 : 0 < q := by omega
  have hbq : bl N = bl q + t := by rw [hqt]; exact bl_shift hq0
  have hv : (N : Rat) = (q : Rat) * pw (0 + t) := by
    rw [liftn, ← hqt, pw_zero]; grind
  (refine spec_defk (gok _) (d_mpf_sqrt w) ?_; (conv => arg 7; whnf); (conv => arg 5; whnf); (conv => arg 8; simp only [List.cons_append, List.nil_append, List.zip_cons_cons, List.zip_nil_left, List.zip_nil_right, List.append_nil]); (conv => arg 6; unfold GT))
  unfold fl
  have z1 : ((q : Int) = 0) = False := eq_false (by omega)
  simp only [↓s_nil, ↓s_cons, ↓s_pass, ↓s_brk, ↓s_ret, ↓s_asg, ↓s_tup, ↓s_aug, ↓s_if, ↓s_assert, ↓asg_nil, ↓asg_cons, ↓e_int, ↓e_str, ↓e_bool, ↓e_name, ↓e_bin, ↓e_un, ↓e_bool2, ↓e_if, ↓e_cmp, ↓e_call, ↓e_bits, ↓e_sub, ↓e_tup, ↓t_not, ↓t_bool, ↓t_if, ↓t_cmp, ↓t_name, ↓t_call, ↓t_bin, ↓t_const, ↓t_sub, ↓es_nil, ↓es_cons, ↓b_one, ↓b_and, ↓b_or, ↓a_nil_and, ↓a_nil_or, ↓a_and, ↓a_or, ↓c_one, ↓c_more, ↓d_one, ↓d_more, ↓tupk_tup, ↓intk_int, ↓ksq_next, ↓ksq_ret, ↓ksq_brk, ↓ksq_cont, ↓kdf_ret, ↓kdf_next, ↓klp_next, ↓klp_cont, ↓klp_brk, ↓klp_ret, ↓vl_cons, ↓vl_nil, ↓vg_cons, ↓vl0_cons, ↓upk_nil, ↓upk_cons, ↓bv_add, ↓bv_sub, ↓bv_mul, ↓bv_fdiv, ↓bv_mod, ↓bv_shl, ↓bv_shr, ↓bv_and, ↓bv_xor, ↓bv_pow, ↓av_add, ↓av_sub, ↓av_mul, ↓av_shl, ↓av_shr, ↓av_xor, ↓cv_eq, ↓cv_ne, ↓cv_lt, ↓cv_le, ↓cv_gt, ↓cv_ge, ↓cv_str, ↓cv_tup, ↓cv_in, ↓cv_instr, ↓tr_bool, ↓tr_int, ↓uv_neg, ↓uv_not, ↓br_dec, ↓br_tt, ↓br_ff, ↓br_not, ↓sub2_0, ↓sub2_1, ↓sub4_0, ok_name, ok_call, isG_eq, isL_eq, gk_cons, lc_cons, kg, kl, ↓reduceIte, List.all_cons, List.all_nil, List.isEmpty_cons, nstar, nset, nslice, ncall, ncomp, Bool.and_true, Bool.true_and, Bool.not_false, Bool.not_true, and_true, true_and, ne_eq, not_true, not_false_eq_true, List.length_cons, List.length_nil, ite_not, beq_self_eq_true, decide_false, decide_true, Bool.false_eq_true, ↓String.reduceEq, ↓String.reduceNe, Int.reduceLT, Int.reduceLE, Int.reduceGT, Int.reduceGE, Int.reduceEq, Int.reduceNe, Int.reduceNeg, Int.reduceAdd, Int.reduceSub, Int.reduceMul, Int.reduceToNat, Nat.reduceLT, Nat.reduceLeDiff, Nat.reduceAdd, Nat.reduceMul, Nat.reduceEqDiff, z1, fd_f]
  rw [hv, Int.zero_add, bitAnd_m1]
  split
  · rename_i ht
    split
    · rename_i h1
      have : q = 1 := by omega
      subst this
      refine ⟨known_norm w, by decide, ?_⟩
      have c2 : ((t : Int)).fdiv 2 = ((t / 2 : Nat) : Int) := fdiv_nat t 2
      rw [c2]
      refine (norm_m w (mode_f0 w) hq0 hp).mono fun d hd => ?_
      obtain ⟨M, E', nf, hd⟩ := hd
      refine ⟨M, E', nf, sdir_exact (c := 1) (k := ((t / 2 : Nat) : Int)) ?_ hd (nn _ _)⟩
      rw [sqpw]; congr 2; omega
    · exact sqrt_tail_f w hq0 rfl (by omega) hp hp2 (E := ((t / 2 : Nat) : Int)) (by omega)
  · rename_i ht
    refine ⟨?_, ?_⟩
    · show ((bl q : Nat) : Int) + 1 ≤ _; omega
    have e1 : (q : Rat) * pw t = ((q * 2 ^ 1 : Nat) : Rat) * pw (t - 1) := by
      rw [← liftn]; congr 2; omega
    have b1 : bl (q * 2 ^ 1) = bl q + 1 := bl_shift hq0
    have c1 : (q : Int) * 2 ^ 1 = ((q * 2 ^ 1 : Nat) : Int) := by push_cast; rfl
    rw [e1, c1]
    exact sqrt_tail_f w (by omega) (by rw [b1]; rfl) (by omega) hp hp2 (E := ((t / 2 : Nat) : Int)) (by omega)
theorem sqrt_head (w : World) {p A : Nat} {bA : Int} {C : D → Prop} (hbA : bA = bl A) (hp : 1 ≤ p) (hp2 : p ≤ 200) (h : ∀ s : Nat, 2 * p + 4 ≤ bl A + 2 * s → 2 ≤ s → s ≤ 210 → C (.int ((2 * s : Nat) : Int))) :
      Known (KK w) (Str.ofString "max") ∧
        IntMulOk 2 p ∧
          Spec PP w (KK w) 5 (Str.ofString "max") [PyData.int 4, PyData.int (2 * (p : Int) - bA + 4)] fun d =>
            binv Operator.BitAnd d (PyData.int 1) fun b =>
              augv Operator.Add d b C := by
  subst hbA
  refine ⟨known_max w, IntMulOk.of_le (m := 10) (n := 200) (by decide) (Nat.le_trans (bl_le.mpr Nat.lt_two_pow_self) hp2) (by decide), (max_spec w _ _).mono fun d hd => ?_⟩
  subst hd
  obtain ⟨x, s, hx, hs, h1, h2, h3⟩ := shift_even (b := bl A) hp hp2
  rw [hx]
  simp only [↓s_nil, ↓s_cons, ↓s_pass, ↓s_brk, ↓s_ret, ↓s_asg, ↓s_tup, ↓s_aug, ↓s_if, ↓s_assert, ↓asg_nil, ↓asg_cons, ↓e_int, ↓e_str, ↓e_bool, ↓e_name, ↓e_bin, ↓e_un, ↓e_bool2, ↓e_if, ↓e_cmp, ↓e_call, ↓e_bits, ↓e_sub, ↓e_tup, ↓t_not, ↓t_bool, ↓t_if, ↓t_cmp, ↓t_name, ↓t_call, ↓t_bin, ↓t_const, ↓t_sub, ↓es_nil, ↓es_cons, ↓b_one, ↓b_and, ↓b_or, ↓a_nil_and, ↓a_nil_or, ↓a_and, ↓a_or, ↓c_one, ↓c_more, ↓d_one, ↓d_more, ↓tupk_tup, ↓intk_int, ↓ksq_next, ↓ksq_ret, ↓ksq_brk, ↓ksq_cont, ↓kdf_ret, ↓kdf_next, ↓klp_next, ↓klp_cont, ↓klp_brk, ↓klp_ret, ↓vl_cons, ↓vl_nil, ↓vg_cons, ↓vl0_cons, ↓upk_nil, ↓upk_cons, ↓bv_add, ↓bv_sub, ↓bv_mul, ↓bv_fdiv, ↓bv_mod, ↓bv_shl, ↓bv_shr, ↓bv_and, ↓bv_xor, ↓bv_pow, ↓av_add, ↓av_sub, ↓av_mul, ↓av_shl, ↓av_shr, ↓av_xor, ↓cv_eq, ↓cv_ne, ↓cv_lt, ↓cv_le, ↓cv_gt, ↓cv_ge, ↓cv_str, ↓cv_tup, ↓cv_in, ↓cv_instr, ↓tr_bool, ↓tr_int, ↓uv_neg, ↓uv_not, ↓br_dec, ↓br_tt, ↓br_ff, ↓br_not, ↓sub2_0, ↓sub2_1, ↓sub4_0, ok_name, ok_call, isG_eq, isL_eq, gk_cons, lc_cons, kg, kl, ↓reduceIte, List.all_cons, List.all_nil, List.isEmpty_cons, nstar, nset, nslice, ncall, ncomp, Bool.and_true, Bool.true_and, Bool.not_false, Bool.not_true, and_true, true_and, ne_eq, not_true, not_false_eq_true, List.length_cons, List.length_nil, ite_not, beq_self_eq_true, decide_false, decide_true, Bool.false_eq_true, ↓String.reduceEq, ↓String.reduceNe, Int.reduceLT, Int.reduceLE, Int.reduceGT, Int.reduceGE, Int.reduceEq, Int.reduceNe, Int.reduceNeg, Int.reduceAdd, Int.reduceSub, Int.reduceMul, Int.reduceToNat, Nat.reduceLT, Nat.reduceLeDiff, Nat.reduceAdd, Nat.reduceMul, Nat.reduceEqDiff]
  rw [hs]
  exact h s h1 h2 h3
theorem sqrt_c (w : World) {p N : Nat} {d : D} (hN : 0 < N) (hb : bl N ≤ 100) (hp : 1 ≤ p) (hp2 : p ≤ 200) (h : IsF 0 N 0 d) : Spec PP w (KK w) 6 "mpf_sqrt" [d, .int p, .str "c"] (RootF p false N) := by
  obtain ⟨q, t, hqt, hq, rfl⟩ := h
  have hq0 : 0 < q := by omega
  have hbq : bl N = bl q + t := by rw [hqt]; exact bl_shift hq0
  have hv : (N : Rat) = (q : Rat) * pw (0 + t) := by
    rw [liftn, ← hqt, pw_zero]; grind
  (refine spec_defk (gok _) (d_mpf_sqrt w) ?_; (conv => arg 7; whnf); (conv => arg 5; whnf); (conv => arg 8; simp only [List.cons_append, List.nil_append, List.zip_cons_cons, List.zip_nil_left, List.zip_nil_right, List.append_nil]); (conv => arg 6; unfold GT))
  unfold fl
  have z1 : ((q : Int) = 0) = False := eq_false (by omega)
  simp only [↓s_nil, ↓s_cons, ↓s_pass, ↓s_brk, ↓s_ret, ↓s_asg, ↓s_tup, ↓s_aug, ↓s_if, ↓s_assert, ↓asg_nil, ↓asg_cons, ↓e_int, ↓e_str, ↓e_bool, ↓e_name, ↓e_bin, ↓e_un, ↓e_bool2, ↓e_if, ↓e_cmp, ↓e_call, ↓e_bits, ↓e_sub, ↓e_tup, ↓t_not, ↓t_bool, ↓t_if, ↓t_cmp, ↓t_name, ↓t_call, ↓t_bin, ↓t_const, ↓t_sub, ↓es_nil, ↓es_cons, ↓b_one, ↓b_and, ↓b_or, ↓a_nil_and, ↓a_nil_or, ↓a_and, ↓a_or, ↓c_one, ↓c_more, ↓d_one, ↓d_more, ↓tupk_tup, ↓intk_int, ↓ksq_next, ↓ksq_ret, ↓ksq_brk, ↓ksq_cont, ↓kdf_ret, ↓kdf_next, ↓klp_next, ↓klp_cont, ↓klp_brk, ↓klp_ret, ↓vl_cons, ↓vl_nil, ↓vg_cons, ↓vl0_cons, ↓upk_nil, ↓upk_cons, ↓bv_add, ↓bv_sub, ↓bv_mul, ↓bv_fdiv, ↓bv_mod, ↓bv_shl, ↓bv_shr, ↓bv_and, ↓bv_xor, ↓bv_pow, ↓av_add, ↓av_sub, ↓av_mul, ↓av_shl, ↓av_shr, ↓av_xor, ↓cv_eq, ↓cv_ne, ↓cv_lt, ↓cv_le, ↓cv_gt, ↓cv_ge, ↓cv_str, ↓cv_tup, ↓cv_in, ↓cv_instr, ↓tr_bool, ↓tr_int, ↓uv_neg, ↓uv_not, ↓br_dec, ↓br_tt, ↓br_ff, ↓br_not, ↓sub2_0, ↓sub2_1, ↓sub4_0, ok_name, ok_call, isG_eq, isL_eq, gk_cons, lc_cons, kg, kl, ↓reduceIte, List.all_cons, List.all_nil, List.isEmpty_cons, nstar, nset, nslice, ncall, ncomp, Bool.and_true, Bool.true_and, Bool.not_false, Bool.not_true, and_true, true_and, ne_eq, not_true, not_false_eq_true, List.length_cons, List.length_nil, ite_not, beq_self_eq_true, decide_false, decide_true, Bool.false_eq_true, ↓String.reduceEq, ↓String.reduceNe, Int.reduceLT, Int.reduceLE, Int.reduceGT, Int.reduceGE, Int.reduceEq, Int.reduceNe, Int.reduceNeg, Int.reduceAdd, Int.reduceSub, Int.reduceMul, Int.reduceToNat, Nat.reduceLT, Nat.reduceLeDiff, Nat.reduceAdd, Nat.reduceMul, Nat.reduceEqDiff, z1, fd_c]
  rw [hv, Int.zero_add, bitAnd_m1]
  split
  · rename_i ht
    split
    · rename_i h1
      have : q = 1 := by omega
      subst this
      refine ⟨known_norm w, by decide, ?_⟩
      have c2 : ((t : Int)).fdiv 2 = ((t / 2 : Nat) : Int) := fdiv_nat t 2
      rw [c2]
      refine (norm_m w (mode_c0 w) hq0 hp).mono fun d hd => ?_
      obtain ⟨M, E', nf, hd⟩ := hd
      refine ⟨M, E', nf, sdir_exact (c := 1) (k := ((t / 2 : Nat) : Int)) ?_ hd (nn _ _)⟩
      rw [sqpw]; congr 2; omega
    ·
      refine sqrt_head w (A := q) rfl hp hp2 fun s h1 h2 h3 => ?_
      refine ⟨known_sqrtrem w, ⟨by omega, ?_⟩, ?_⟩
      · show ((bl (q) : Nat) : Int) + _ ≤ _; omega
      rw [Int.toNat_natCast]
      have c1 : ((q : Nat) : Int) * 2 ^ (2 * s) = ((q * 2 ^ (2 * s) : Nat) : Int) := by push_cast; rfl
      rw [c1]
      have hA0 : 0 < q := by omega
      have hN : 0 < q * 2 ^ (2 * s) := Nat.mul_pos hA0 (Nat.two_pow_pos _)
      have hbN : bl (q * 2 ^ (2 * s)) = bl (q) + 2 * s := bl_shift hA0
      refine (sqrtrem_spec w hN (by omega)).mono fun d hd => ?_
      obtain ⟨R, rfl, r1, r2⟩ := hd
      have hR := root_bits (p := p) hA0 (by omega) r2
      have hv : (q : Nat) * pw ((t : Int)) = ((q * 2 ^ (2 * s) : Nat) : Rat) * pw (2 * (((t / 2 : Nat) : Int) - (s : Int))) := val_shift (S := 2 * s) (s := (s : Int)) (by omega) (by omega)
      rw [hv]
      have hb2 : bl R ≤ 1000 := Nat.le_trans (bl_mono (Nat.le_trans (Nat.le_mul_self R) r1)) (by omega)
      have hRp := Nat.two_pow_pos p
      simp only [↓s_nil, ↓s_cons, ↓s_pass, ↓s_brk, ↓s_ret, ↓s_asg, ↓s_tup, ↓s_aug, ↓s_if, ↓s_assert, ↓asg_nil, ↓asg_cons, ↓e_int, ↓e_str, ↓e_bool, ↓e_name, ↓e_bin, ↓e_un, ↓e_bool2, ↓e_if, ↓e_cmp, ↓e_call, ↓e_bits, ↓e_sub, ↓e_tup, ↓t_not, ↓t_bool, ↓t_if, ↓t_cmp, ↓t_name, ↓t_call, ↓t_bin, ↓t_const, ↓t_sub, ↓es_nil, ↓es_cons, ↓b_one, ↓b_and, ↓b_or, ↓a_nil_and, ↓a_nil_or, ↓a_and, ↓a_or, ↓c_one, ↓c_more, ↓d_one, ↓d_more, ↓tupk_tup, ↓intk_int, ↓ksq_next, ↓ksq_ret, ↓ksq_brk, ↓ksq_cont, ↓kdf_ret, ↓kdf_next, ↓klp_next, ↓klp_cont, ↓klp_brk, ↓klp_ret, ↓vl_cons, ↓vl_nil, ↓vg_cons, ↓vl0_cons, ↓upk_nil, ↓upk_cons, ↓bv_add, ↓bv_sub, ↓bv_mul, ↓bv_fdiv, ↓bv_mod, ↓bv_shl, ↓bv_shr, ↓bv_and, ↓bv_xor, ↓bv_pow, ↓av_add, ↓av_sub, ↓av_mul, ↓av_shl, ↓av_shr, ↓av_xor, ↓cv_eq, ↓cv_ne, ↓cv_lt, ↓cv_le, ↓cv_gt, ↓cv_ge, ↓cv_str, ↓cv_tup, ↓cv_in, ↓cv_instr, ↓tr_bool, ↓tr_int, ↓uv_neg, ↓uv_not, ↓br_dec, ↓br_tt, ↓br_ff, ↓br_not, ↓sub2_0, ↓sub2_1, ↓sub4_0, ok_name, ok_call, isG_eq, isL_eq, gk_cons, lc_cons, kg, kl, ↓reduceIte, List.all_cons, List.all_nil, List.isEmpty_cons, nstar, nset, nslice, ncall, ncomp, Bool.and_true, Bool.true_and, Bool.not_false, Bool.not_true, and_true, true_and, ne_eq, not_true, not_false_eq_true, List.length_cons, List.length_nil, ite_not, beq_self_eq_true, decide_false, decide_true, Bool.false_eq_true, ↓String.reduceEq, ↓String.reduceNe, Int.reduceLT, Int.reduceLE, Int.reduceGT, Int.reduceGE, Int.reduceEq, Int.reduceNe, Int.reduceNeg, Int.reduceAdd, Int.reduceSub, Int.reduceMul, Int.reduceToNat, Nat.reduceLT, Nat.reduceLeDiff, Nat.reduceAdd, Nat.reduceMul, Nat.reduceEqDiff, fd_c]
      split
      · rename_i hr
        refine ⟨known_fme w, by decide, ?_⟩
        have c2 : ((((t : Int)) - ((2 * s : Nat) : Int))).fdiv 2 = ((t / 2 : Nat) : Int) - (s : Int) := by
          rw [Int.fdiv_eq_ediv_of_nonneg _ (by decide)]; omega
        rw [c2]
        refine (fmep w (mode_c0 w) (by omega) hp).mono fun d hd => ?_
        obtain ⟨M, E', nf, hd⟩ := hd
        refine ⟨M, E', nf, sdir_exact ?_ hd (nn _ _)⟩
        rw [sqpw]; congr 2
        have : ((q * 2 ^ (2 * s) : Nat) : Int) = ((R * R : Nat) : Int) := by rw [Int.natCast_mul R R]; omega
        omega
      · rename_i hr
        refine ⟨?_, known_fme w, by decide, ?_⟩
        · show ((bl R : Nat) : Int) + _ ≤ _; omega
        have c2 : ((((t : Int)) - (((2 * s : Nat) : Int) + 2))).fdiv 2 = (((t / 2 : Nat) : Int) - (s : Int)) - 1 := by
          rw [Int.fdiv_eq_ediv_of_nonneg _ (by decide)]; omega
        have c3 : (R : Int) * 2 ^ 1 + 1 = ((2 * R + 1 : Nat) : Int) := by omega
        rw [c2, c3]
        refine (fmep w (mode_c0 w) (by omega) hp).mono fun d hd => ?_
        obtain ⟨M, E', nf, hd⟩ := hd
        have r3 : R * R < q * 2 ^ (2 * s) := by
          rcases Nat.lt_or_ge (R * R) (q * 2 ^ (2 * s)) with h | h
          · exact h
          · exfalso; apply hr
            have : ((q * 2 ^ (2 * s) : Nat) : Int) = ((R * R : Nat) : Int) := by omega
            rw [this, Int.natCast_mul R R]; omega
        exact ⟨M, E', nf, root_up rfl r3 r2 hR nf.2.2 hd⟩
  · rename_i ht
    refine ⟨?_, ?_⟩
    · show ((bl q : Nat) : Int) + 1 ≤ _; omega
    have e1 : (q : Rat) * pw t = ((q * 2 ^ 1 : Nat) : Rat) * pw (t - 1) := by
      rw [← liftn]; congr 2; omega
    have b1 : bl (q * 2 ^ 1) = bl q + 1 := bl_shift hq0
    have c1 : (q : Int) * 2 ^ 1 = ((q * 2 ^ 1 : Nat) : Int) := by push_cast; rfl
    rw [e1, c1]
    generalize hAe : q * 2 ^ 1 = A at *
    refine sqrt_head w (A := A) (by rw [b1]; rfl) hp hp2 fun s h1 h2 h3 => ?_
    refine ⟨known_sqrtrem w, ⟨by omega, ?_⟩, ?_⟩
    · show ((bl (A) : Nat) : Int) + _ ≤ _; omega
    rw [Int.toNat_natCast]
    have c1 : ((A : Nat) : Int) * 2 ^ (2 * s) = ((A * 2 ^ (2 * s) : Nat) : Int) := by push_cast; rfl
    rw [c1]
    have hA0 : 0 < A := by omega
    have hN : 0 < A * 2 ^ (2 * s) := Nat.mul_pos hA0 (Nat.two_pow_pos _)
    have hbN : bl (A * 2 ^ (2 * s)) = bl (A) + 2 * s := bl_shift hA0
    refine (sqrtrem_spec w hN (by omega)).mono fun d hd => ?_
    obtain ⟨R, rfl, r1, r2⟩ := hd
    have hR := root_bits (p := p) hA0 (by omega) r2
    have hv : (A : Nat) * pw ((t : Int) - 1) = ((A * 2 ^ (2 * s) : Nat) : Rat) * pw (2 * (((t / 2 : Nat) : Int) - (s : Int))) := val_shift (S := 2 * s) (s := (s : Int)) (by omega) (by omega)
    rw [hv]
    have hb2 : bl R ≤ 1000 := Nat.le_trans (bl_mono (Nat.le_trans (Nat.le_mul_self R) r1)) (by omega)
    have hRp := Nat.two_pow_pos p
    simp only [↓s_nil, ↓s_cons, ↓s_pass, ↓s_brk, ↓s_ret, ↓s_asg, ↓s_tup, ↓s_aug, ↓s_if, ↓s_assert, ↓asg_nil, ↓asg_cons, ↓e_int, ↓e_str, ↓e_bool, ↓e_name, ↓e_bin, ↓e_un, ↓e_bool2, ↓e_if, ↓e_cmp, ↓e_call, ↓e_bits, ↓e_sub, ↓e_tup, ↓t_not, ↓t_bool, ↓t_if, ↓t_cmp, ↓t_name, ↓t_call, ↓t_bin, ↓t_const, ↓t_sub, ↓es_nil, ↓es_cons, ↓b_one, ↓b_and, ↓b_or, ↓a_nil_and, ↓a_nil_or, ↓a_and, ↓a_or, ↓c_one, ↓c_more, ↓d_one, ↓d_more, ↓tupk_tup, ↓intk_int, ↓ksq_next, ↓ksq_ret, ↓ksq_brk, ↓ksq_cont, ↓kdf_ret, ↓kdf_next, ↓klp_next, ↓klp_cont, ↓klp_brk, ↓klp_ret, ↓vl_cons, ↓vl_nil, ↓vg_cons, ↓vl0_cons, ↓upk_nil, ↓upk_cons, ↓bv_add, ↓bv_sub, ↓bv_mul, ↓bv_fdiv, ↓bv_mod, ↓bv_shl, ↓bv_shr, ↓bv_and, ↓bv_xor, ↓bv_pow, ↓av_add, ↓av_sub, ↓av_mul, ↓av_shl, ↓av_shr, ↓av_xor, ↓cv_eq, ↓cv_ne, ↓cv_lt, ↓cv_le, ↓cv_gt, ↓cv_ge, ↓cv_str, ↓cv_tup, ↓cv_in, ↓cv_instr, ↓tr_bool, ↓tr_int, ↓uv_neg, ↓uv_not, ↓br_dec, ↓br_tt, ↓br_ff, ↓br_not, ↓sub2_0, ↓sub2_1, ↓sub4_0, ok_name, ok_call, isG_eq, isL_eq, gk_cons, lc_cons, kg, kl, ↓reduceIte, List.all_cons, List.all_nil, List.isEmpty_cons, nstar, nset, nslice, ncall, ncomp, Bool.and_true, Bool.true_and, Bool.not_false, Bool.not_true, and_true, true_and, ne_eq, not_true, not_false_eq_true, List.length_cons, List.length_nil, ite_not, beq_self_eq_true, decide_false, decide_true, Bool.false_eq_true, ↓String.reduceEq, ↓String.reduceNe, Int.reduceLT, Int.reduceLE, Int.reduceGT, Int.reduceGE, Int.reduceEq, Int.reduceNe, Int.reduceNeg, Int.reduceAdd, Int.reduceSub, Int.reduceMul, Int.reduceToNat, Nat.reduceLT, Nat.reduceLeDiff, Nat.reduceAdd, Nat.reduceMul, Nat.reduceEqDiff, fd_c]
    split
    · rename_i hr
      refine ⟨known_fme w, by decide, ?_⟩
      have c2 : ((((t : Int) - 1) - ((2 * s : Nat) : Int))).fdiv 2 = ((t / 2 : Nat) : Int) - (s : Int) := by
        rw [Int.fdiv_eq_ediv_of_nonneg _ (by decide)]; omega
      rw [c2]
      refine (fmep w (mode_c0 w) (by omega) hp).mono fun d hd => ?_
      obtain ⟨M, E', nf, hd⟩ := hd
      refine ⟨M, E', nf, sdir_exact ?_ hd (nn _ _)⟩
      rw [sqpw]; congr 2
      have : ((A * 2 ^ (2 * s) : Nat) : Int) = ((R * R : Nat) : Int) := by rw [Int.natCast_mul R R]; omega
      omega
    · rename_i hr
      refine ⟨?_, known_fme w, by decide, ?_⟩
      · show ((bl R : Nat) : Int) + _ ≤ _; omega
      have c2 : ((((t : Int) - 1) - (((2 * s : Nat) : Int) + 2))).fdiv 2 = (((t / 2 : Nat) : Int) - (s : Int)) - 1 := by
        rw [Int.fdiv_eq_ediv_of_nonneg _ (by decide)]; omega
      have c3 : (R : Int) * 2 ^ 1 + 1 = ((2 * R + 1 : Nat) : Int) := by omega
      rw [c2, c3]
      refine (fmep w (mode_c0 w) (by omega) hp).mono fun d hd => ?_
      obtain ⟨M, E', nf, hd⟩ := hd
      have r3 : R * R < A * 2 ^ (2 * s) := by
        rcases Nat.lt_or_ge (R * R) (A * 2 ^ (2 * s)) with h | h
        · exact h
        · exfalso; apply hr
          have : ((A * 2 ^ (2 * s) : Nat) : Int) = ((R * R : Nat) : Int) := by omega
          rw [this, Int.natCast_mul R R]; omega
      exact ⟨M, E', nf, root_up rfl r3 r2 hR nf.2.2 hd⟩
end Mine

end
section
open PySem PySem.W PyProof.Rows PySem.Calls
set_option maxRecDepth 100000
namespace Mine
theorem Dir.between {dn : Bool} {p h M : Nat} {E E' : Int} {W W' : Rat} (hp : 2 ^ p ≤ 2 * h) (h1 : ((2 * h : Nat) : Rat) * pw E < W) (h2 : W < ((2 * h + 2 : Nat) : Rat) * pw E)
    (h1' : ((2 * h : Nat) : Rat) * pw E < W') (h2' : W' < ((2 * h + 2 : Nat) : Rat) * pw E) (hM : bl M ≤ p) (R : Dir dn p W' (M * pw E')) : Dir dn p W (M * pw E') := by
  have key : ∀ (c : Nat) (k : Int), c < 2 ^ p → (c : Rat) * pw k ≤ ((2 * h : Nat) : Rat) * pw E ∨ ((2 * h + 2 : Nat) : Rat) * pw E ≤ (c : Rat) * pw k := by
    intro c k hc
    rcases (by grind : (c : Rat) * pw k ≤ ((2 * h : Nat) : Rat) * pw E ∨ ((2 * h : Nat) : Rat) * pw E < (c : Rat) * pw k) with q | q
    · exact .inl q
    · obtain ⟨b, e⟩ := even_of hc hp q
      rw [e] at q ⊢
      rw [clt] at q
      exact .inr (cle.mpr (by omega))
  cases dn with
  | true =>
    have R : RDn p W' (M * pw E') := R
    refine (⟨?_, fun c k hc hk => R.top c k hc ?_⟩ : RDn p W (M * pw E'))
    · have := R.le; have := key M E' (bl_le.mp hM); grind
    · have := key c k hc; grind
  | false =>
    have R : RUp p W' (M * pw E') := R
    refine (⟨?_, fun c k hc hk => R.top c k hc ?_⟩ : RUp p W (M * pw E'))
    · have := R.le; have := key M E' (bl_le.mp hM); grind
    · have := key c k hc; grind
theorem Dir.exact {dn : Bool} {p c : Nat} {k : Int} {r : Rat} (R : Dir dn p (c * pw k) r) (hc : c < 2 ^ p) : r = c * pw k := by
  cases dn with
  | true => have R : RDn p (c * pw k) r := R; have := R.le; have := R.top c k hc Rat.le_refl; grind
  | false => have R : RUp p (c * pw k) r := R; have := R.le; have := R.top c k hc Rat.le_refl; grind
/-- one far above the other -/
theorem far (w : World) {p m m' : Nat} {e e' : Int} {x : String} {dn : Bool} (M : Mode w x 0 dn) (hm : 0 < m) (hm' : 0 < m') (b1 : bl m ≤ p) (hd : (p : Int) + 4 < bl m + e - bl m' - e') (hp : p ≤ 2000) :
   Spec PP w (KK w) 5 "normalize" [.int 0, .int ((m : Int) * 2 ^ ((p : Int) + 4).toNat + 1), .int (e - (p + 4)), .int (Builtin.Int.intBits ((m : Int) * 2 ^ ((p : Int) + 4).toNat + 1)), .int p, .str (Str.ofString x)] (Rounded 0 p dn (m * pw e + m' * pw e')) := by
  have hb := bl_ge1 hm
  have c0 : ((p : Int) + 4).toNat = p + 4 := by omega
  have c1 : (m : Int) * 2 ^ ((p : Int) + 4).toNat + 1 = ((m * 2 ^ (p + 4) + 1 : Nat) : Int) := by rw [c0]; push_cast; rfl
  rw [c1]
  refine (norm_m w M (by omega) (by omega)).mono fun d hd' => ?_
  obtain ⟨N, E, nf, hR⟩ := hd'
  refine ⟨N, E, nf, hR.between (h := m * 2 ^ (p - bl m)) (E := e - (p - bl m : Nat) - 1) ?_ ?_ ?_ ?_ ?_ nf.2.2⟩
  · have := Nat.mul_le_mul_right (2 ^ (p - bl m)) (bl_lo hm)
    rw [← Nat.pow_add, show bl m - 1 + (p - bl m) = p - 1 by omega] at this
    have e2 : 2 ^ p = 2 * 2 ^ (p - 1) := by rw [Nat.mul_comm, ← Nat.pow_succ]; congr 1; omega
    omega
  all_goals
    have k1 : ((2 * (m * 2 ^ (p - bl m)) : Nat) : Rat) * pw (e - (p - bl m : Nat) - 1) = m * pw e := by
      have : pw e = pw (e - (p - bl m : Nat) - 1 + ((p - bl m + 1 : Nat) : Int)) := by congr 1; omega
      rw [this, liftn, Nat.pow_succ]; congr 2; grind
    have k2 : ((2 * (m * 2 ^ (p - bl m)) + 2 : Nat) : Rat) * pw (e - (p - bl m : Nat) - 1) = m * pw e + pw (e - (p - bl m : Nat)) := by
      have : pw (e - (p - bl m : Nat)) = 2 * pw (e - (p - bl m : Nat) - 1) := by rw [← pw_succ]; congr 1; omega
      rw [this, ← k1]; push_cast; grind
    have k3 : ((m * 2 ^ (p + 4) + 1 : Nat) : Rat) * pw (e - (p + 4)) = m * pw e + pw (e - (p + 4)) := by
      have : pw e = pw (e - (p + 4) + ((p + 4 : Nat) : Int)) := by congr 1; omega
      rw [this, liftn]; push_cast; grind
    have k4 := Rat.mul_pos (Rat.natCast_pos.mpr hm') (pw_pos e')
    have k5 := pw_pos (e - (p + 4))
    have k6 : (m' : Rat) * pw e' < pw (e - (p - bl m : Nat)) := by
      have a := lt_pw_of_bits (m := m') (e := e')
      have b : pw (e' + bl m') ≤ pw (e - (p - bl m : Nat)) := pw_mono (by omega)
      grind
    have k7 : pw (e - (p + 4)) < pw (e - (p - bl m : Nat)) := by
      have a : pw (e - (p + 4)) < pw (e - (p + 4) + 1) := by rw [pw_succ]; grind
      have b : pw (e - (p + 4) + 1) ≤ pw (e - (p - bl m : Nat)) := pw_mono (by omega)
      grind
    first
      | (rw [k1]; grind)
      | (rw [k2]; grind)
      | (rw [k1, k3]; grind)
      | (rw [k2, k3]; grind)
theorem near (w : World) {p A B : Nat} {e : Int} {x : String} {dn : Bool} (M : Mode w x 0 dn) (hA : 0 < A) (hp : 1 ≤ p) :
   Spec PP w (KK w) 5 "normalize" [.int 0, .int ((A : Int) + B), .int e, .int (Builtin.Int.intBits ((A : Int) + B)), .int p, .str (Str.ofString x)] (Rounded 0 p dn (B * pw e + A * pw e)) := by
  have c1 : (A : Int) + B = ((A + B : Nat) : Int) := by omega
  rw [c1, show (B : Rat) * pw e + A * pw e = ((A + B : Nat) : Rat) * pw e by push_cast; grind]
  exact (norm_m w M (by omega) hp).mono fun d hd => hd
/-- of ordinary size -/
def Sz (v : Rat) : Prop := pw (-10000) ≤ v ∧ v ≤ pw 10000
theorem Sz.exp {m : Nat} {e : Int} (h : Sz (m * pw e)) (hm : 0 < m) : -10000 < e + bl m ∧ e + bl m ≤ 10001 :=
  ⟨exp_lo h.1, by have := exp_hi hm h.2; omega⟩
theorem sh_up {m : Nat} {e e' : Int} (h : e' ≤ e) : (m : Rat) * pw e = ((m * 2 ^ (e - e').toNat : Nat) : Rat) * pw e' := by
  have : pw e = pw (e' + ((e - e').toNat : Int)) := by congr 1; omega
  rw [this, liftn]
theorem add_spec (w : World) {p : Nat} {x : String} {dn : Bool} {v u : Rat} {d d' : D} (M : Mode w x 0 dn) (hp1 : 1 ≤ p) (hp2 : p ≤ 2000) (h : Pos p v d) (h' : Pos p u d') (sv : Sz v) (su : Sz u) :
   Spec PP w (KK w) 6 "mpf_add" [d, d', .int p, .str x] (Rounded 0 p dn (v + u)) := by
  obtain ⟨m, e, ⟨rfl, ho, b1⟩, rfl⟩ := h
  obtain ⟨m', e', ⟨rfl, ho', b2⟩, rfl⟩ := h'
  have hm : 0 < m := by omega
  have hm' : 0 < m' := by omega
  have z1 : ((m : Int) = 0) = False := eq_false (by omega)
  have z2 : ((m' : Int) = 0) = False := eq_false (by omega)
  have z3 : ((p : Int) = 0) = False := eq_false (by omega)
  have s1 := sv.exp hm
  have s2 := su.exp hm'
  have n1 : e' ≤ e → Spec PP w (KK w) 5 "normalize" [.int 0, .int ((m' : Int) + (m : Int) * 2 ^ (e - e').toNat), .int e', .int (Builtin.Int.intBits ((m' : Int) + (m : Int) * 2 ^ (e - e').toNat)), .int p, .str (Str.ofString x)] (Rounded 0 p dn (m * pw e + m' * pw e')) := by
    intro hle
    rw [sh_up hle, show (m : Int) * 2 ^ (e - e').toNat = ((m * 2 ^ (e - e').toNat : Nat) : Int) by push_cast; rfl]
    exact near w M hm' hp1
  have n2 : e ≤ e' → Spec PP w (KK w) 5 "normalize" [.int 0, .int ((m : Int) + (m' : Int) * 2 ^ (-(e - e')).toNat), .int e, .int (Builtin.Int.intBits ((m : Int) + (m' : Int) * 2 ^ (-(e - e')).toNat)), .int p, .str (Str.ofString x)] (Rounded 0 p dn (m * pw e + m' * pw e')) := by
    intro hle
    rw [show -(e - e') = e' - e by omega, sh_up hle, show (m' : Int) * 2 ^ (e' - e).toNat = ((m' * 2 ^ (e' - e).toNat : Nat) : Int) by push_cast; rfl, Rat.add_comm]
    exact near w M hm hp1
  have n3 : e - e' = 0 → Spec PP w (KK w) 5 "normalize" [.int 0, .int ((m' : Int) + (m : Int)), .int e', .int (Builtin.Int.intBits ((m' : Int) + (m : Int))), .int p, .str (Str.ofString x)] (Rounded 0 p dn (m * pw e + m' * pw e')) := by
    intro hle
    have : e = e' := by omega
    subst this
    exact near w M hm' hp1
  have g1 : (Builtin.Int.intBits (m : Int) : Int) ≤ p := Int.ofNat_le.mpr b1
  have g2 : (Builtin.Int.intBits (m' : Int) : Int) ≤ p := Int.ofNat_le.mpr b2
  (refine spec_defk (gok _) (d_mpf_add4 w) ?_; (conv => arg 7; whnf); (conv => arg 5; whnf); (conv => arg 8; simp only [List.cons_append, List.nil_append, List.zip_cons_cons, List.zip_nil_left, List.zip_nil_right, List.append_nil]); (conv => arg 6; unfold GT))
  unfold fl
  simp only [↓s_nil, ↓s_cons, ↓s_pass, ↓s_brk, ↓s_ret, ↓s_asg, ↓s_tup, ↓s_aug, ↓s_if, ↓s_assert, ↓asg_nil, ↓asg_cons, ↓e_int, ↓e_str, ↓e_bool, ↓e_name, ↓e_bin, ↓e_un, ↓e_bool2, ↓e_if, ↓e_cmp, ↓e_call, ↓e_bits, ↓e_sub, ↓e_tup, ↓t_not, ↓t_bool, ↓t_if, ↓t_cmp, ↓t_name, ↓t_call, ↓t_bin, ↓t_const, ↓t_sub, ↓es_nil, ↓es_cons, ↓b_one, ↓b_and, ↓b_or, ↓a_nil_and, ↓a_nil_or, ↓a_and, ↓a_or, ↓c_one, ↓c_more, ↓d_one, ↓d_more, ↓tupk_tup, ↓intk_int, ↓ksq_next, ↓ksq_ret, ↓ksq_brk, ↓ksq_cont, ↓kdf_ret, ↓kdf_next, ↓klp_next, ↓klp_cont, ↓klp_brk, ↓klp_ret, ↓vl_cons, ↓vl_nil, ↓vg_cons, ↓vl0_cons, ↓upk_nil, ↓upk_cons, ↓bv_add, ↓bv_sub, ↓bv_mul, ↓bv_fdiv, ↓bv_mod, ↓bv_shl, ↓bv_shr, ↓bv_and, ↓bv_xor, ↓bv_pow, ↓av_add, ↓av_sub, ↓av_mul, ↓av_shl, ↓av_shr, ↓av_xor, ↓cv_eq, ↓cv_ne, ↓cv_lt, ↓cv_le, ↓cv_gt, ↓cv_ge, ↓cv_str, ↓cv_tup, ↓cv_in, ↓cv_instr, ↓tr_bool, ↓tr_int, ↓uv_neg, ↓uv_not, ↓br_dec, ↓br_tt, ↓br_ff, ↓br_not, ↓sub2_0, ↓sub2_1, ↓sub4_0, ok_name, ok_call, isG_eq, isL_eq, gk_cons, lc_cons, kg, kl, ↓reduceIte, List.all_cons, List.all_nil, List.isEmpty_cons, nstar, nset, nslice, ncall, ncomp, Bool.and_true, Bool.true_and, Bool.not_false, Bool.not_true, and_true, true_and, ne_eq, not_true, not_false_eq_true, List.length_cons, List.length_nil, ite_not, beq_self_eq_true, decide_false, decide_true, Bool.false_eq_true, ↓String.reduceEq, ↓String.reduceNe, Int.reduceLT, Int.reduceLE, Int.reduceGT, Int.reduceGE, Int.reduceEq, Int.reduceNe, Int.reduceNeg, Int.reduceAdd, Int.reduceSub, Int.reduceMul, Int.reduceToNat, Nat.reduceLT, Nat.reduceLeDiff, Nat.reduceAdd, Nat.reduceMul, Nat.reduceEqDiff, z1, z2, z3, if_false, bitXor_self]
  split
  · rename_i hz
    exact ⟨known_norm w, n3 hz⟩
  split
  · split
    · split
      · rename_i hd
        exact ⟨⟨by omega, by omega⟩, known_norm w, far w M hm hm' b1 hd hp2⟩
      · exact ⟨⟨by omega, by omega⟩, known_norm w, n1 (by omega)⟩
    · exact ⟨⟨by omega, by omega⟩, known_norm w, n1 (by omega)⟩
  split
  · split
    · split
      · rename_i hd
        refine ⟨⟨by omega, by omega⟩, known_norm w, ?_⟩
        rw [Rat.add_comm]
        exact far w M hm' hm b2 hd hp2
      · exact ⟨⟨by omega, by omega⟩, known_norm w, n2 (by omega)⟩
    · exact ⟨⟨by omega, by omega⟩, known_norm w, n2 (by omega)⟩
  · omega
theorem known_add (w : World) : Known (KK w) (Str.ofString "mpf_add") := (d_mpf_add4 w).known
end Mine

end
section
open PySem PySem.W PyProof.Rows PySem.Calls
set_option maxRecDepth 100000
namespace Mine
theorem mode_c1 (w : World) : Mode w "c" 1 true := ⟨by decide, ⟨0, 1, ⟨_, table_is w, rfl⟩, rfl⟩, .inr rfl⟩
/-- the difference of two positive floats -/
def Diff (R0 R1 : Rat → D → Prop) (v u : Rat) (d : D) : Prop := (v = u ∧ d = fl 0 0 0 0) ∨ (u < v ∧ R0 (v - u) d) ∨ (v < u ∧ R1 (u - v) d)
theorem rsub {A B : Nat} {e : Int} (h : B ≤ A) : ((A - B : Nat) : Rat) * pw e = (A : Rat) * pw e - B * pw e := by
  have : (A : Rat) = ((A - B : Nat) : Rat) + B := by rw [← Rat.natCast_add]; congr 1; omega
  rw [this]; grind
theorem diff (w : World) {p A B : Nat} {e : Int} {x : String} {dn dn1 : Bool} (M : Mode w x 0 dn) (M1 : Mode w x 1 dn1) (hp : 1 ≤ p) :
   if 0 ≤ (A : Int) - B then
     Known (KK w) (Str.ofString "normalize") ∧ Spec PP w (KK w) 5 (Str.ofString "normalize") [.int 0, .int ((A : Int) - B), .int e, .int (Builtin.Int.intBits ((A : Int) - B)), .int p, .str (Str.ofString x)] (Diff (Rounded 0 p dn) (Rounded 1 p dn1) (A * pw e) (B * pw e))
   else
     Known (KK w) (Str.ofString "normalize") ∧ Spec PP w (KK w) 5 (Str.ofString "normalize") [.int 1, .int (-((A : Int) - B)), .int e, .int (Builtin.Int.intBits (-((A : Int) - B))), .int p, .str (Str.ofString x)] (Diff (Rounded 0 p dn) (Rounded 1 p dn1) (A * pw e) (B * pw e)) := by
  split
  · refine ⟨known_norm w, ?_⟩
    have c1 : (A : Int) - B = ((A - B : Nat) : Int) := by omega
    rw [c1]
    rcases Nat.eq_zero_or_pos (A - B) with h0 | h0
    · rw [h0]
      have : A = B := by omega
      subst this
      exact (norm_0 w).mono fun d hd => .inl ⟨rfl, hd⟩
    · refine (norm_m w M h0 hp).mono fun d hd => .inr (.inl ⟨clt.mpr (by omega), ?_⟩)
      rwa [rsub (by omega)] at hd
  · refine ⟨known_norm w, ?_⟩
    have c1 : -((A : Int) - B) = ((B - A : Nat) : Int) := by omega
    rw [c1]
    refine (norm_m w M1 (show 0 < B - A by omega) hp).mono fun d hd => .inr (.inr ⟨clt.mpr (by omega), ?_⟩)
    rwa [rsub (by omega)] at hd
theorem mag_of {m : Nat} {e k : Int} (hm : 0 < m) (h1 : pw k ≤ m * pw e) (h2 : m * pw e < pw (k + 1)) : e + bl m = k + 1 := by
  have a1 := pw_lt_inv (a := k) (b := e + bl m) (by have := lt_pw_of_bits (m := m) (e := e); grind)
  have a2 := pw_lt_inv (a := e + bl m - 1) (b := k + 1) (by have := pw_le_of_bits (e := e) hm; grind)
  omega
theorem sub_spec (w : World) {p p1 p2 : Nat} {x : String} {dn dn1 : Bool} {v u : Rat} {d d' : D} (M : Mode w x 0 dn) (M1 : Mode w x 1 dn1) (hp1 : 1 ≤ p) (hq1 : p1 ≤ 2000) (hq2 : p2 ≤ 2000) (h : Pos p1 v d) (h' : Pos p2 u d') (sv : Sz v) (su : Sz u)
   (hmag : ∃ k : Int, pw k ≤ v ∧ v < pw (k + 1) ∧ pw k ≤ u ∧ u < pw (k + 1)) :
   Spec PP w (KK w) 6 "mpf_add" [d, d', .int p, .str x, .int 1] (Diff (Rounded 0 p dn) (Rounded 1 p dn1) v u) := by
  obtain ⟨m, e, ⟨rfl, ho, b1⟩, rfl⟩ := h
  obtain ⟨m', e', ⟨rfl, ho', b2⟩, rfl⟩ := h'
  have hm : 0 < m := by omega
  have hm' : 0 < m' := by omega
  have z1 : ((m : Int) = 0) = False := eq_false (by omega)
  have z2 : ((m' : Int) = 0) = False := eq_false (by omega)
  have z3 : ((p : Int) = 0) = False := eq_false (by omega)
  have z4 : Builtin.bitXor 0 1 = 1 := by decide +kernel
  have s1 := sv.exp hm
  have s2 := su.exp hm'
  have hmg : e + bl m = e' + bl m' := by
    obtain ⟨k, k1, k2, k3, k4⟩ := hmag
    have a1 := mag_of hm k1 k2
    have a2 := mag_of hm' k3 k4
    omega
  have n1 := fun (hle : e' ≤ e) => diff w (p := p) (A := m * 2 ^ (e - e').toNat) (B := m') (e := e') M M1 hp1
  have n2 := fun (hle : e ≤ e') => diff w (p := p) (A := m) (B := m' * 2 ^ (e' - e).toNat) (e := e) M M1 hp1
  have n3 := diff w (p := p) (A := m) (B := m') (e := e') M M1 hp1
  have g1 : (Builtin.Int.intBits (m : Int) : Int) ≤ p1 := Int.ofNat_le.mpr b1
  have g2 : (Builtin.Int.intBits (m' : Int) : Int) ≤ p2 := Int.ofNat_le.mpr b2
  have c1 : (m : Int) * 2 ^ (e - e').toNat = ((m * 2 ^ (e - e').toNat : Nat) : Int) := by push_cast; rfl
  have c2 : (m' : Int) * 2 ^ (e' - e).toNat = ((m' * 2 ^ (e' - e).toNat : Nat) : Int) := by push_cast; rfl
  have c3 : -(e - e') = e' - e := by omega
  (refine spec_defk (gok _) (d_mpf_add5 w) ?_; (conv => arg 7; whnf); (conv => arg 5; whnf); (conv => arg 8; simp only [List.cons_append, List.nil_append, List.zip_cons_cons, List.zip_nil_left, List.zip_nil_right, List.append_nil]); (conv => arg 6; unfold GT))
  unfold fl
  simp only [↓s_nil, ↓s_cons, ↓s_pass, ↓s_brk, ↓s_ret, ↓s_asg, ↓s_tup, ↓s_aug, ↓s_if, ↓s_assert, ↓asg_nil, ↓asg_cons, ↓e_int, ↓e_str, ↓e_bool, ↓e_name, ↓e_bin, ↓e_un, ↓e_bool2, ↓e_if, ↓e_cmp, ↓e_call, ↓e_bits, ↓e_sub, ↓e_tup, ↓t_not, ↓t_bool, ↓t_if, ↓t_cmp, ↓t_name, ↓t_call, ↓t_bin, ↓t_const, ↓t_sub, ↓es_nil, ↓es_cons, ↓b_one, ↓b_and, ↓b_or, ↓a_nil_and, ↓a_nil_or, ↓a_and, ↓a_or, ↓c_one, ↓c_more, ↓d_one, ↓d_more, ↓tupk_tup, ↓intk_int, ↓ksq_next, ↓ksq_ret, ↓ksq_brk, ↓ksq_cont, ↓kdf_ret, ↓kdf_next, ↓klp_next, ↓klp_cont, ↓klp_brk, ↓klp_ret, ↓vl_cons, ↓vl_nil, ↓vg_cons, ↓vl0_cons, ↓upk_nil, ↓upk_cons, ↓bv_add, ↓bv_sub, ↓bv_mul, ↓bv_fdiv, ↓bv_mod, ↓bv_shl, ↓bv_shr, ↓bv_and, ↓bv_xor, ↓bv_pow, ↓av_add, ↓av_sub, ↓av_mul, ↓av_shl, ↓av_shr, ↓av_xor, ↓cv_eq, ↓cv_ne, ↓cv_lt, ↓cv_le, ↓cv_gt, ↓cv_ge, ↓cv_str, ↓cv_tup, ↓cv_in, ↓cv_instr, ↓tr_bool, ↓tr_int, ↓uv_neg, ↓uv_not, ↓br_dec, ↓br_tt, ↓br_ff, ↓br_not, ↓sub2_0, ↓sub2_1, ↓sub4_0, ok_name, ok_call, isG_eq, isL_eq, gk_cons, lc_cons, kg, kl, ↓reduceIte, List.all_cons, List.all_nil, List.isEmpty_cons, nstar, nset, nslice, ncall, ncomp, Bool.and_true, Bool.true_and, Bool.not_false, Bool.not_true, and_true, true_and, ne_eq, not_true, not_false_eq_true, List.length_cons, List.length_nil, ite_not, beq_self_eq_true, decide_false, decide_true, Bool.false_eq_true, ↓String.reduceEq, ↓String.reduceNe, Int.reduceLT, Int.reduceLE, Int.reduceGT, Int.reduceGE, Int.reduceEq, Int.reduceNe, Int.reduceNeg, Int.reduceAdd, Int.reduceSub, Int.reduceMul, Int.reduceToNat, Nat.reduceLT, Nat.reduceLeDiff, Nat.reduceAdd, Nat.reduceMul, Nat.reduceEqDiff, z1, z2, z3, if_false, bitXor_self, z4, c1, c2, c3]
  split
  · rename_i hz
    have : e = e' := by omega
    subst this
    exact n3
  split
  · have n1 := n1 (by omega)
    rw [← sh_up (by omega)] at n1
    split
    · split
      · omega
      · exact ⟨⟨by omega, by omega⟩, n1⟩
    · exact ⟨⟨by omega, by omega⟩, n1⟩
  split
  · have n2 := n2 (by omega)
    rw [← sh_up (by omega)] at n2
    split
    · split
      · omega
      · exact ⟨⟨by omega, by omega⟩, n2⟩
    · exact ⟨⟨by omega, by omega⟩, n2⟩
  · omega
/-- without a precision: the difference itself -/
def ExF (sg : Int) (v : Rat) (d : D) : Prop := ∃ M E P, NF d sg M E P ∧ (M : Rat) * pw E = v
theorem Rounded.ex {sg : Int} {dn : Bool} {N : Nat} {e : Int} {d : D} (h : Rounded sg (bl N) dn (N * pw e) d) : ExF sg (N * pw e) d := by
  obtain ⟨M, E, nf, R⟩ := h
  exact ⟨M, E, _, nf, R.exact (bl_up N)⟩
theorem diff0 (w : World) {A B : Nat} {e : Int} {x : String} {dn dn1 : Bool} (M : Mode w x 0 dn) (M1 : Mode w x 1 dn1) :
   if 0 ≤ (A : Int) - B then
     Known (KK w) (Str.ofString "normalize") ∧ Spec PP w (KK w) 5 (Str.ofString "normalize") [.int 0, .int ((A : Int) - B), .int e, .int (Builtin.Int.intBits ((A : Int) - B)), .int (Builtin.Int.intBits ((A : Int) - B)), .str (Str.ofString x)] (Diff (ExF 0) (ExF 1) (A * pw e) (B * pw e))
   else
     Known (KK w) (Str.ofString "normalize") ∧ Spec PP w (KK w) 5 (Str.ofString "normalize") [.int 1, .int (-((A : Int) - B)), .int e, .int (Builtin.Int.intBits (-((A : Int) - B))), .int (Builtin.Int.intBits (-((A : Int) - B))), .str (Str.ofString x)] (Diff (ExF 0) (ExF 1) (A * pw e) (B * pw e)) := by
  split
  · refine ⟨known_norm w, ?_⟩
    have c1 : (A : Int) - B = ((A - B : Nat) : Int) := by omega
    rw [c1]
    rcases Nat.eq_zero_or_pos (A - B) with h0 | h0
    · rw [h0]
      have : A = B := by omega
      subst this
      exact (norm_0 w).mono fun d hd => .inl ⟨rfl, hd⟩
    · refine (norm_m w M h0 (bl_ge1 h0)).mono fun d hd => .inr (.inl ⟨clt.mpr (by omega), ?_⟩)
      rw [← rsub (by omega)]
      exact Rounded.ex hd
  · refine ⟨known_norm w, ?_⟩
    have c1 : -((A : Int) - B) = ((B - A : Nat) : Int) := by omega
    rw [c1]
    refine (norm_m w M1 (show 0 < B - A by omega) (bl_ge1 (by omega))).mono fun d hd => .inr (.inr ⟨clt.mpr (by omega), ?_⟩)
    rw [← rsub (by omega)]
    exact Rounded.ex hd
theorem sub0_spec (w : World) {p1 p2 : Nat} {x : String} {dn dn1 : Bool} {v u : Rat} {d d' : D} (M : Mode w x 0 dn) (M1 : Mode w x 1 dn1) (hq1 : p1 ≤ 5000) (hq2 : p2 ≤ 5000) (h : Pos p1 v d) (h' : Pos p2 u d') (sv : Sz v) (su : Sz u) :
   Spec PP w (KK w) 6 "mpf_add" [d, d', .int 0, .str x, .int 1] (Diff (ExF 0) (ExF 1) v u) := by
  obtain ⟨m, e, ⟨rfl, ho, b1⟩, rfl⟩ := h
  obtain ⟨m', e', ⟨rfl, ho', b2⟩, rfl⟩ := h'
  have hm : 0 < m := by omega
  have hm' : 0 < m' := by omega
  have z1 : ((m : Int) = 0) = False := eq_false (by omega)
  have z2 : ((m' : Int) = 0) = False := eq_false (by omega)
  have z4 : Builtin.bitXor 0 1 = 1 := by decide +kernel
  have s1 := sv.exp hm
  have s2 := su.exp hm'
  have n1 := fun (hle : e' ≤ e) => diff0 w (A := m * 2 ^ (e - e').toNat) (B := m') (e := e') M M1
  have n2 := fun (hle : e ≤ e') => diff0 w (A := m) (B := m' * 2 ^ (e' - e).toNat) (e := e) M M1
  have n3 := diff0 w (A := m) (B := m') (e := e') M M1
  have g1 : (Builtin.Int.intBits (m : Int) : Int) ≤ p1 := Int.ofNat_le.mpr b1
  have g2 : (Builtin.Int.intBits (m' : Int) : Int) ≤ p2 := Int.ofNat_le.mpr b2
  have c1 : (m : Int) * 2 ^ (e - e').toNat = ((m * 2 ^ (e - e').toNat : Nat) : Int) := by push_cast; rfl
  have c2 : (m' : Int) * 2 ^ (e' - e).toNat = ((m' * 2 ^ (e' - e).toNat : Nat) : Int) := by push_cast; rfl
  have c3 : -(e - e') = e' - e := by omega
  (refine spec_defk (gok _) (d_mpf_add5 w) ?_; (conv => arg 7; whnf); (conv => arg 5; whnf); (conv => arg 8; simp only [List.cons_append, List.nil_append, List.zip_cons_cons, List.zip_nil_left, List.zip_nil_right, List.append_nil]); (conv => arg 6; unfold GT))
  unfold fl
  simp only [↓s_nil, ↓s_cons, ↓s_pass, ↓s_brk, ↓s_ret, ↓s_asg, ↓s_tup, ↓s_aug, ↓s_if, ↓s_assert, ↓asg_nil, ↓asg_cons, ↓e_int, ↓e_str, ↓e_bool, ↓e_name, ↓e_bin, ↓e_un, ↓e_bool2, ↓e_if, ↓e_cmp, ↓e_call, ↓e_bits, ↓e_sub, ↓e_tup, ↓t_not, ↓t_bool, ↓t_if, ↓t_cmp, ↓t_name, ↓t_call, ↓t_bin, ↓t_const, ↓t_sub, ↓es_nil, ↓es_cons, ↓b_one, ↓b_and, ↓b_or, ↓a_nil_and, ↓a_nil_or, ↓a_and, ↓a_or, ↓c_one, ↓c_more, ↓d_one, ↓d_more, ↓tupk_tup, ↓intk_int, ↓ksq_next, ↓ksq_ret, ↓ksq_brk, ↓ksq_cont, ↓kdf_ret, ↓kdf_next, ↓klp_next, ↓klp_cont, ↓klp_brk, ↓klp_ret, ↓vl_cons, ↓vl_nil, ↓vg_cons, ↓vl0_cons, ↓upk_nil, ↓upk_cons, ↓bv_add, ↓bv_sub, ↓bv_mul, ↓bv_fdiv, ↓bv_mod, ↓bv_shl, ↓bv_shr, ↓bv_and, ↓bv_xor, ↓bv_pow, ↓av_add, ↓av_sub, ↓av_mul, ↓av_shl, ↓av_shr, ↓av_xor, ↓cv_eq, ↓cv_ne, ↓cv_lt, ↓cv_le, ↓cv_gt, ↓cv_ge, ↓cv_str, ↓cv_tup, ↓cv_in, ↓cv_instr, ↓tr_bool, ↓tr_int, ↓uv_neg, ↓uv_not, ↓br_dec, ↓br_tt, ↓br_ff, ↓br_not, ↓sub2_0, ↓sub2_1, ↓sub4_0, ok_name, ok_call, isG_eq, isL_eq, gk_cons, lc_cons, kg, kl, ↓reduceIte, List.all_cons, List.all_nil, List.isEmpty_cons, nstar, nset, nslice, ncall, ncomp, Bool.and_true, Bool.true_and, Bool.not_false, Bool.not_true, and_true, true_and, ne_eq, not_true, not_false_eq_true, List.length_cons, List.length_nil, ite_not, beq_self_eq_true, decide_false, decide_true, Bool.false_eq_true, ↓String.reduceEq, ↓String.reduceNe, Int.reduceLT, Int.reduceLE, Int.reduceGT, Int.reduceGE, Int.reduceEq, Int.reduceNe, Int.reduceNeg, Int.reduceAdd, Int.reduceSub, Int.reduceMul, Int.reduceToNat, Nat.reduceLT, Nat.reduceLeDiff, Nat.reduceAdd, Nat.reduceMul, Nat.reduceEqDiff, z1, z2, if_false, bitXor_self, z4, c1, c2, c3, ite_self]
  split
  · rename_i hz
    have : e = e' := by omega
    subst this
    exact n3
  split
  · have n1 := n1 (by omega)
    rw [← sh_up (by omega)] at n1
    exact ⟨⟨by omega, by omega⟩, n1⟩
  split
  · have n2 := n2 (by omega)
    rw [← sh_up (by omega)] at n2
    exact ⟨⟨by omega, by omega⟩, n2⟩
  · omega
end Mine

end
section
open PySem PySem.W PyProof.Rows PySem.Calls
set_option maxRecDepth 100000
namespace Mine
theorem cqe {a b : Nat} {e : Int} (h : (a : Rat) * pw e = (b : Rat) * pw e) : a = b := Nat.le_antisymm (cle.mp (by rw [h]; exact Rat.le_refl)) (cle.mp (by rw [h]; exact Rat.le_refl))
theorem known_sub (w : World) : Known (KK w) (Str.ofString "mpf_sub") := (d_mpf_sub4 w).known
theorem sub4_spec (w : World) {p p1 p2 : Nat} {x : String} {dn dn1 : Bool} {v u : Rat} {d d' : D} (M : Mode w x 0 dn) (M1 : Mode w x 1 dn1) (hp1 : 1 ≤ p) (hq1 : p1 ≤ 2000) (hq2 : p2 ≤ 2000) (h : Pos p1 v d) (h' : Pos p2 u d') (sv : Sz v) (su : Sz u)
   (hmag : ∃ k : Int, pw k ≤ v ∧ v < pw (k + 1) ∧ pw k ≤ u ∧ u < pw (k + 1)) :
   Spec PP w (KK w) 7 "mpf_sub" [d, d', .int p, .str x] (Diff (Rounded 0 p dn) (Rounded 1 p dn1) v u) := by
  (refine spec_defk (gok _) (d_mpf_sub4 w) ?_; (conv => arg 7; whnf); (conv => arg 5; whnf); (conv => arg 8; simp only [List.cons_append, List.nil_append, List.zip_cons_cons, List.zip_nil_left, List.zip_nil_right, List.append_nil]); (conv => arg 6; unfold GT))
  simp only [↓s_nil, ↓s_cons, ↓s_pass, ↓s_brk, ↓s_ret, ↓s_asg, ↓s_tup, ↓s_aug, ↓s_if, ↓s_assert, ↓asg_nil, ↓asg_cons, ↓e_int, ↓e_str, ↓e_bool, ↓e_name, ↓e_bin, ↓e_un, ↓e_bool2, ↓e_if, ↓e_cmp, ↓e_call, ↓e_bits, ↓e_sub, ↓e_tup, ↓t_not, ↓t_bool, ↓t_if, ↓t_cmp, ↓t_name, ↓t_call, ↓t_bin, ↓t_const, ↓t_sub, ↓es_nil, ↓es_cons, ↓b_one, ↓b_and, ↓b_or, ↓a_nil_and, ↓a_nil_or, ↓a_and, ↓a_or, ↓c_one, ↓c_more, ↓d_one, ↓d_more, ↓tupk_tup, ↓intk_int, ↓ksq_next, ↓ksq_ret, ↓ksq_brk, ↓ksq_cont, ↓kdf_ret, ↓kdf_next, ↓klp_next, ↓klp_cont, ↓klp_brk, ↓klp_ret, ↓vl_cons, ↓vl_nil, ↓vg_cons, ↓vl0_cons, ↓upk_nil, ↓upk_cons, ↓bv_add, ↓bv_sub, ↓bv_mul, ↓bv_fdiv, ↓bv_mod, ↓bv_shl, ↓bv_shr, ↓bv_and, ↓bv_xor, ↓bv_pow, ↓av_add, ↓av_sub, ↓av_mul, ↓av_shl, ↓av_shr, ↓av_xor, ↓cv_eq, ↓cv_ne, ↓cv_lt, ↓cv_le, ↓cv_gt, ↓cv_ge, ↓cv_str, ↓cv_tup, ↓cv_in, ↓cv_instr, ↓tr_bool, ↓tr_int, ↓uv_neg, ↓uv_not, ↓br_dec, ↓br_tt, ↓br_ff, ↓br_not, ↓sub2_0, ↓sub2_1, ↓sub4_0, ok_name, ok_call, isG_eq, isL_eq, gk_cons, lc_cons, kg, kl, ↓reduceIte, List.all_cons, List.all_nil, List.isEmpty_cons, nstar, nset, nslice, ncall, ncomp, Bool.and_true, Bool.true_and, Bool.not_false, Bool.not_true, and_true, true_and, ne_eq, not_true, not_false_eq_true, List.length_cons, List.length_nil, ite_not, beq_self_eq_true, decide_false, decide_true, Bool.false_eq_true, ↓String.reduceEq, ↓String.reduceNe, Int.reduceLT, Int.reduceLE, Int.reduceGT, Int.reduceGE, Int.reduceEq, Int.reduceNe, Int.reduceNeg, Int.reduceAdd, Int.reduceSub, Int.reduceMul, Int.reduceToNat, Nat.reduceLT, Nat.reduceLeDiff, Nat.reduceAdd, Nat.reduceMul, Nat.reduceEqDiff]
  exact ⟨known_add w, sub_spec w M M1 hp1 hq1 hq2 h h' sv su hmag⟩
theorem sub2_spec (w : World) {p1 p2 : Nat} {v u : Rat} {d d' : D} (hq1 : p1 ≤ 5000) (hq2 : p2 ≤ 5000) (h : Pos p1 v d) (h' : Pos p2 u d') (sv : Sz v) (su : Sz u) :
   Spec PP w (KK w) 7 "mpf_sub" [d, d'] (Diff (ExF 0) (ExF 1) v u) := by
  (refine spec_defk (gok _) (d_mpf_sub2 w) ?_; (conv => arg 7; whnf); (conv => arg 5; whnf); (conv => arg 8; simp only [List.cons_append, List.nil_append, List.zip_cons_cons, List.zip_nil_left, List.zip_nil_right, List.append_nil]); (conv => arg 6; unfold GT))
  simp only [↓s_nil, ↓s_cons, ↓s_pass, ↓s_brk, ↓s_ret, ↓s_asg, ↓s_tup, ↓s_aug, ↓s_if, ↓s_assert, ↓asg_nil, ↓asg_cons, ↓e_int, ↓e_str, ↓e_bool, ↓e_name, ↓e_bin, ↓e_un, ↓e_bool2, ↓e_if, ↓e_cmp, ↓e_call, ↓e_bits, ↓e_sub, ↓e_tup, ↓t_not, ↓t_bool, ↓t_if, ↓t_cmp, ↓t_name, ↓t_call, ↓t_bin, ↓t_const, ↓t_sub, ↓es_nil, ↓es_cons, ↓b_one, ↓b_and, ↓b_or, ↓a_nil_and, ↓a_nil_or, ↓a_and, ↓a_or, ↓c_one, ↓c_more, ↓d_one, ↓d_more, ↓tupk_tup, ↓intk_int, ↓ksq_next, ↓ksq_ret, ↓ksq_brk, ↓ksq_cont, ↓kdf_ret, ↓kdf_next, ↓klp_next, ↓klp_cont, ↓klp_brk, ↓klp_ret, ↓vl_cons, ↓vl_nil, ↓vg_cons, ↓vl0_cons, ↓upk_nil, ↓upk_cons, ↓bv_add, ↓bv_sub, ↓bv_mul, ↓bv_fdiv, ↓bv_mod, ↓bv_shl, ↓bv_shr, ↓bv_and, ↓bv_xor, ↓bv_pow, ↓av_add, ↓av_sub, ↓av_mul, ↓av_shl, ↓av_shr, ↓av_xor, ↓cv_eq, ↓cv_ne, ↓cv_lt, ↓cv_le, ↓cv_gt, ↓cv_ge, ↓cv_str, ↓cv_tup, ↓cv_in, ↓cv_instr, ↓tr_bool, ↓tr_int, ↓uv_neg, ↓uv_not, ↓br_dec, ↓br_tt, ↓br_ff, ↓br_not, ↓sub2_0, ↓sub2_1, ↓sub4_0, ok_name, ok_call, isG_eq, isL_eq, gk_cons, lc_cons, kg, kl, ↓reduceIte, List.all_cons, List.all_nil, List.isEmpty_cons, nstar, nset, nslice, ncall, ncomp, Bool.and_true, Bool.true_and, Bool.not_false, Bool.not_true, and_true, true_and, ne_eq, not_true, not_false_eq_true, List.length_cons, List.length_nil, ite_not, beq_self_eq_true, decide_false, decide_true, Bool.false_eq_true, ↓String.reduceEq, ↓String.reduceNe, Int.reduceLT, Int.reduceLE, Int.reduceGT, Int.reduceGE, Int.reduceEq, Int.reduceNe, Int.reduceNeg, Int.reduceAdd, Int.reduceSub, Int.reduceMul, Int.reduceToNat, Nat.reduceLT, Nat.reduceLeDiff, Nat.reduceAdd, Nat.reduceMul, Nat.reduceEqDiff]
  exact ⟨known_add w, sub0_spec w (mode_d0 w) (mode_d1 w) hq1 hq2 h h' sv su⟩
open Classical in
/-- the order of two values, as a number -/
noncomputable def ord (v u : Rat) : Int := if v < u then -1 else if v = u then 0 else 1
theorem ord_lt {v u : Rat} (h : v < u) : ord v u = -1 := by unfold ord; rw [if_pos h]
theorem ord_gt {v u : Rat} (h : u < v) : ord v u = 1 := by unfold ord; rw [if_neg (by grind), if_neg (by grind)]
theorem ord_eq {v : Rat} : ord v v = 0 := by unfold ord; rw [if_neg (by grind), if_pos rfl]
theorem known_cmp (w : World) : Known (KK w) (Str.ofString "mpf_cmp") := (d_mpf_cmp w).known
theorem cmp_spec (w : World) {p1 p2 : Nat} {v u : Rat} {d d' : D} (hq1 : p1 ≤ 2000) (hq2 : p2 ≤ 2000) (h : Pos p1 v d) (h' : Pos p2 u d') (sv : Sz v) (su : Sz u) :
   Spec PP w (KK w) 8 "mpf_cmp" [d, d'] (· = .int (ord v u)) := by
  have h0 := h
  have h0' := h'
  obtain ⟨m, e, ⟨rfl, ho, b1⟩, rfl⟩ := h
  obtain ⟨m', e', ⟨rfl, ho', b2⟩, rfl⟩ := h'
  have hm : 0 < m := by omega
  have hm' : 0 < m' := by omega
  have z1 : ((m : Int) = 0) = False := eq_false (by omega)
  have z2 : ((m' : Int) = 0) = False := eq_false (by omega)
  have hmag : bl m + e = bl m' + e' → Spec PP w (KK w) 7 "mpf_sub" [fl 0 m e (bl m), fl 0 m' e' (bl m'), .int (5 : Nat), .str "f"] (Diff (Rounded 0 5 true) (Rounded 1 5 false) (m * pw e) (m' * pw e')) := fun hk =>
    sub4_spec w (p := 5) (mode_f0 w) (mode_f1 w) (by omega) hq1 hq2 h0 h0' sv su ⟨e + bl m - 1, pw_le_of_bits hm, by
      have := lt_pw_of_bits (m := m) (e := e); rwa [show e + bl m - 1 + 1 = e + bl m by omega], by rw [show e + (bl m : Int) - 1 = e' + bl m' - 1 by omega]; exact pw_le_of_bits hm', by
      have := lt_pw_of_bits (m := m') (e := e'); rwa [show e + (bl m : Int) - 1 + 1 = e' + bl m' by omega]⟩
  have hlt : ∀ {a b : Nat} {x y : Int}, 0 < b → (bl a : Int) + x < bl b + y → (a : Rat) * pw x < b * pw y := fun {a b x y} hb hk => by
    have a1 := lt_pw_of_bits (m := a) (e := x)
    have a2 := pw_le_of_bits (e := y) hb
    have a3 := pw_mono (show x + bl a ≤ y + bl b - 1 by omega)
    grind
  (refine spec_defk (gok _) (d_mpf_cmp w) ?_; (conv => arg 7; whnf); (conv => arg 5; whnf); (conv => arg 8; simp only [List.cons_append, List.nil_append, List.zip_cons_cons, List.zip_nil_left, List.zip_nil_right, List.append_nil]); (conv => arg 6; unfold GT))
  unfold fl
  simp only [↓s_nil, ↓s_cons, ↓s_pass, ↓s_brk, ↓s_ret, ↓s_asg, ↓s_tup, ↓s_aug, ↓s_if, ↓s_assert, ↓asg_nil, ↓asg_cons, ↓e_int, ↓e_str, ↓e_bool, ↓e_name, ↓e_bin, ↓e_un, ↓e_bool2, ↓e_if, ↓e_cmp, ↓e_call, ↓e_bits, ↓e_sub, ↓e_tup, ↓t_not, ↓t_bool, ↓t_if, ↓t_cmp, ↓t_name, ↓t_call, ↓t_bin, ↓t_const, ↓t_sub, ↓es_nil, ↓es_cons, ↓b_one, ↓b_and, ↓b_or, ↓a_nil_and, ↓a_nil_or, ↓a_and, ↓a_or, ↓c_one, ↓c_more, ↓d_one, ↓d_more, ↓tupk_tup, ↓intk_int, ↓ksq_next, ↓ksq_ret, ↓ksq_brk, ↓ksq_cont, ↓kdf_ret, ↓kdf_next, ↓klp_next, ↓klp_cont, ↓klp_brk, ↓klp_ret, ↓vl_cons, ↓vl_nil, ↓vg_cons, ↓vl0_cons, ↓upk_nil, ↓upk_cons, ↓bv_add, ↓bv_sub, ↓bv_mul, ↓bv_fdiv, ↓bv_mod, ↓bv_shl, ↓bv_shr, ↓bv_and, ↓bv_xor, ↓bv_pow, ↓av_add, ↓av_sub, ↓av_mul, ↓av_shl, ↓av_shr, ↓av_xor, ↓cv_eq, ↓cv_ne, ↓cv_lt, ↓cv_le, ↓cv_gt, ↓cv_ge, ↓cv_str, ↓cv_tup, ↓cv_in, ↓cv_instr, ↓tr_bool, ↓tr_int, ↓uv_neg, ↓uv_not, ↓br_dec, ↓br_tt, ↓br_ff, ↓br_not, ↓sub2_0, ↓sub2_1, ↓sub4_0, ok_name, ok_call, isG_eq, isL_eq, gk_cons, lc_cons, kg, kl, ↓reduceIte, List.all_cons, List.all_nil, List.isEmpty_cons, nstar, nset, nslice, ncall, ncomp, Bool.and_true, Bool.true_and, Bool.not_false, Bool.not_true, and_true, true_and, ne_eq, not_true, not_false_eq_true, List.length_cons, List.length_nil, ite_not, beq_self_eq_true, decide_false, decide_true, Bool.false_eq_true, ↓String.reduceEq, ↓String.reduceNe, Int.reduceLT, Int.reduceLE, Int.reduceGT, Int.reduceGE, Int.reduceEq, Int.reduceNe, Int.reduceNeg, Int.reduceAdd, Int.reduceSub, Int.reduceMul, Int.reduceToNat, Nat.reduceLT, Nat.reduceLeDiff, Nat.reduceAdd, Nat.reduceMul, Nat.reduceEqDiff, z1, z2, if_false]
  split
  · rename_i he
    subst he
    split
    · rename_i hq
      have : m = m' := by omega
      subst this
      rw [ord_eq]
    · split
      · rw [ord_gt (clt.mpr (by omega))]
      · rw [ord_lt (clt.mpr (by omega))]
  · rename_i hne
    split
    · rename_i hk
      rw [ord_lt (hlt hm' hk)]
    · split
      · rename_i hk
        rw [ord_gt (hlt hm hk)]
      · refine ⟨known_sub w, (hmag (by omega)).mono fun d hd => ?_⟩
        rcases hd with ⟨hv, rfl⟩ | ⟨hv, M, E, ⟨rfl, _⟩, _⟩ | ⟨hv, M, E, ⟨rfl, _⟩, _⟩
        · exfalso
          rcases (by omega : e < e' ∨ e' < e) with q | q
          · rw [lift (c := m') (k := e') (q := e) (by omega)] at hv
            obtain ⟨j, hj⟩ : ∃ j, (e' - e).toNat = j + 1 := ⟨(e' - e).toNat - 1, by omega⟩
            have a := cqe hv
            rw [hj, Nat.pow_succ, ← Nat.mul_assoc] at a
            omega
          · rw [lift (c := m) (k := e) (q := e') (by omega)] at hv
            obtain ⟨j, hj⟩ : ∃ j, (e - e').toNat = j + 1 := ⟨(e - e').toNat - 1, by omega⟩
            have a := cqe hv
            rw [hj, Nat.pow_succ, ← Nat.mul_assoc] at a
            omega
        · unfold fl
          simp only [↓s_nil, ↓s_cons, ↓s_pass, ↓s_brk, ↓s_ret, ↓s_asg, ↓s_tup, ↓s_aug, ↓s_if, ↓s_assert, ↓asg_nil, ↓asg_cons, ↓e_int, ↓e_str, ↓e_bool, ↓e_name, ↓e_bin, ↓e_un, ↓e_bool2, ↓e_if, ↓e_cmp, ↓e_call, ↓e_bits, ↓e_sub, ↓e_tup, ↓t_not, ↓t_bool, ↓t_if, ↓t_cmp, ↓t_name, ↓t_call, ↓t_bin, ↓t_const, ↓t_sub, ↓es_nil, ↓es_cons, ↓b_one, ↓b_and, ↓b_or, ↓a_nil_and, ↓a_nil_or, ↓a_and, ↓a_or, ↓c_one, ↓c_more, ↓d_one, ↓d_more, ↓tupk_tup, ↓intk_int, ↓ksq_next, ↓ksq_ret, ↓ksq_brk, ↓ksq_cont, ↓kdf_ret, ↓kdf_next, ↓klp_next, ↓klp_cont, ↓klp_brk, ↓klp_ret, ↓vl_cons, ↓vl_nil, ↓vg_cons, ↓vl0_cons, ↓upk_nil, ↓upk_cons, ↓bv_add, ↓bv_sub, ↓bv_mul, ↓bv_fdiv, ↓bv_mod, ↓bv_shl, ↓bv_shr, ↓bv_and, ↓bv_xor, ↓bv_pow, ↓av_add, ↓av_sub, ↓av_mul, ↓av_shl, ↓av_shr, ↓av_xor, ↓cv_eq, ↓cv_ne, ↓cv_lt, ↓cv_le, ↓cv_gt, ↓cv_ge, ↓cv_str, ↓cv_tup, ↓cv_in, ↓cv_instr, ↓tr_bool, ↓tr_int, ↓uv_neg, ↓uv_not, ↓br_dec, ↓br_tt, ↓br_ff, ↓br_not, ↓sub2_0, ↓sub2_1, ↓sub4_0, ok_name, ok_call, isG_eq, isL_eq, gk_cons, lc_cons, kg, kl, ↓reduceIte, List.all_cons, List.all_nil, List.isEmpty_cons, nstar, nset, nslice, ncall, ncomp, Bool.and_true, Bool.true_and, Bool.not_false, Bool.not_true, and_true, true_and, ne_eq, not_true, not_false_eq_true, List.length_cons, List.length_nil, ite_not, beq_self_eq_true, decide_false, decide_true, Bool.false_eq_true, ↓String.reduceEq, ↓String.reduceNe, Int.reduceLT, Int.reduceLE, Int.reduceGT, Int.reduceGE, Int.reduceEq, Int.reduceNe, Int.reduceNeg, Int.reduceAdd, Int.reduceSub, Int.reduceMul, Int.reduceToNat, Nat.reduceLT, Nat.reduceLeDiff, Nat.reduceAdd, Nat.reduceMul, Nat.reduceEqDiff, ord_gt hv]
        · unfold fl
          simp only [↓s_nil, ↓s_cons, ↓s_pass, ↓s_brk, ↓s_ret, ↓s_asg, ↓s_tup, ↓s_aug, ↓s_if, ↓s_assert, ↓asg_nil, ↓asg_cons, ↓e_int, ↓e_str, ↓e_bool, ↓e_name, ↓e_bin, ↓e_un, ↓e_bool2, ↓e_if, ↓e_cmp, ↓e_call, ↓e_bits, ↓e_sub, ↓e_tup, ↓t_not, ↓t_bool, ↓t_if, ↓t_cmp, ↓t_name, ↓t_call, ↓t_bin, ↓t_const, ↓t_sub, ↓es_nil, ↓es_cons, ↓b_one, ↓b_and, ↓b_or, ↓a_nil_and, ↓a_nil_or, ↓a_and, ↓a_or, ↓c_one, ↓c_more, ↓d_one, ↓d_more, ↓tupk_tup, ↓intk_int, ↓ksq_next, ↓ksq_ret, ↓ksq_brk, ↓ksq_cont, ↓kdf_ret, ↓kdf_next, ↓klp_next, ↓klp_cont, ↓klp_brk, ↓klp_ret, ↓vl_cons, ↓vl_nil, ↓vg_cons, ↓vl0_cons, ↓upk_nil, ↓upk_cons, ↓bv_add, ↓bv_sub, ↓bv_mul, ↓bv_fdiv, ↓bv_mod, ↓bv_shl, ↓bv_shr, ↓bv_and, ↓bv_xor, ↓bv_pow, ↓av_add, ↓av_sub, ↓av_mul, ↓av_shl, ↓av_shr, ↓av_xor, ↓cv_eq, ↓cv_ne, ↓cv_lt, ↓cv_le, ↓cv_gt, ↓cv_ge, ↓cv_str, ↓cv_tup, ↓cv_in, ↓cv_instr, ↓tr_bool, ↓tr_int, ↓uv_neg, ↓uv_not, ↓br_dec, ↓br_tt, ↓br_ff, ↓br_not, ↓sub2_0, ↓sub2_1, ↓sub4_0, ok_name, ok_call, isG_eq, isL_eq, gk_cons, lc_cons, kg, kl, ↓reduceIte, List.all_cons, List.all_nil, List.isEmpty_cons, nstar, nset, nslice, ncall, ncomp, Bool.and_true, Bool.true_and, Bool.not_false, Bool.not_true, and_true, true_and, ne_eq, not_true, not_false_eq_true, List.length_cons, List.length_nil, ite_not, beq_self_eq_true, decide_false, decide_true, Bool.false_eq_true, ↓String.reduceEq, ↓String.reduceNe, Int.reduceLT, Int.reduceLE, Int.reduceGT, Int.reduceGE, Int.reduceEq, Int.reduceNe, Int.reduceNeg, Int.reduceAdd, Int.reduceSub, Int.reduceMul, Int.reduceToNat, Nat.reduceLT, Nat.reduceLeDiff, Nat.reduceAdd, Nat.reduceMul, Nat.reduceEqDiff, ord_lt hv]
theorem ord_lt_iff {v u : Rat} : (ord v u < 0) = (v < u) := by
  refine propext ⟨fun h => ?_, fun h => by rw [ord_lt h]; decide⟩
  rcases (by grind : v < u ∨ v = u ∨ u < v) with q | q | q
  · exact q
  · subst q; rw [ord_eq] at h; omega
  · rw [ord_gt q] at h; omega
theorem ord_le_iff {v u : Rat} : (ord v u ≤ 0) = (v ≤ u) := by
  refine propext ⟨fun h => ?_, fun h => ?_⟩
  · rcases (by grind : v < u ∨ v = u ∨ u < v) with q | q | q
    · grind
    · grind
    · rw [ord_gt q] at h; omega
  · rcases (by grind : v < u ∨ v = u ∨ u < v) with q | q | q
    · rw [ord_lt q]; decide
    · subst q; rw [ord_eq]; decide
    · grind
theorem ord_ge_iff {v u : Rat} : (0 ≤ ord v u) = (u ≤ v) := by
  have := ord_lt_iff (v := v) (u := u)
  refine propext ⟨fun h => ?_, fun h => ?_⟩
  · have : ¬ v < u := by rw [← this]; omega
    grind
  · have : ¬ ord v u < 0 := by rw [this]; grind
    omega
theorem known_lt (w : World) : Known (KK w) (Str.ofString "mpf_lt") := (d_mpf_lt w).known
theorem known_le (w : World) : Known (KK w) (Str.ofString "mpf_le") := (d_mpf_le w).known
theorem known_ge (w : World) : Known (KK w) (Str.ofString "mpf_ge") := (d_mpf_ge w).known
theorem lt_spec (w : World) {p1 p2 : Nat} {v u : Rat} {d d' : D} (hq1 : p1 ≤ 2000) (hq2 : p2 ≤ 2000) (h : Pos p1 v d) (h' : Pos p2 u d') (sv : Sz v) (su : Sz u) :
   Spec PP w (KK w) 9 "mpf_lt" [d, d'] (· = .bool (decide (v < u))) := by
  have C := cmp_spec w hq1 hq2 h h' sv su
  obtain ⟨m, e, ⟨rfl, ho, b1⟩, rfl⟩ := h
  obtain ⟨m', e', ⟨rfl, ho', b2⟩, rfl⟩ := h'
  have z1 : ((m : Int) = 0) = False := eq_false (by omega)
  have z2 : ((m' : Int) = 0) = False := eq_false (by omega)
  unfold fl at C
  (refine spec_defk (gok _) (d_mpf_lt w) ?_; (conv => arg 7; whnf); (conv => arg 5; whnf); (conv => arg 8; simp only [List.cons_append, List.nil_append, List.zip_cons_cons, List.zip_nil_left, List.zip_nil_right, List.append_nil]); (conv => arg 6; unfold GT))
  unfold fl
  simp only [↓s_nil, ↓s_cons, ↓s_pass, ↓s_brk, ↓s_ret, ↓s_asg, ↓s_tup, ↓s_aug, ↓s_if, ↓s_assert, ↓asg_nil, ↓asg_cons, ↓e_int, ↓e_str, ↓e_bool, ↓e_name, ↓e_bin, ↓e_un, ↓e_bool2, ↓e_if, ↓e_cmp, ↓e_call, ↓e_bits, ↓e_sub, ↓e_tup, ↓t_not, ↓t_bool, ↓t_if, ↓t_cmp, ↓t_name, ↓t_call, ↓t_bin, ↓t_const, ↓t_sub, ↓es_nil, ↓es_cons, ↓b_one, ↓b_and, ↓b_or, ↓a_nil_and, ↓a_nil_or, ↓a_and, ↓a_or, ↓c_one, ↓c_more, ↓d_one, ↓d_more, ↓tupk_tup, ↓intk_int, ↓ksq_next, ↓ksq_ret, ↓ksq_brk, ↓ksq_cont, ↓kdf_ret, ↓kdf_next, ↓klp_next, ↓klp_cont, ↓klp_brk, ↓klp_ret, ↓vl_cons, ↓vl_nil, ↓vg_cons, ↓vl0_cons, ↓upk_nil, ↓upk_cons, ↓bv_add, ↓bv_sub, ↓bv_mul, ↓bv_fdiv, ↓bv_mod, ↓bv_shl, ↓bv_shr, ↓bv_and, ↓bv_xor, ↓bv_pow, ↓av_add, ↓av_sub, ↓av_mul, ↓av_shl, ↓av_shr, ↓av_xor, ↓cv_eq, ↓cv_ne, ↓cv_lt, ↓cv_le, ↓cv_gt, ↓cv_ge, ↓cv_str, ↓cv_tup, ↓cv_in, ↓cv_instr, ↓tr_bool, ↓tr_int, ↓uv_neg, ↓uv_not, ↓br_dec, ↓br_tt, ↓br_ff, ↓br_not, ↓sub2_0, ↓sub2_1, ↓sub4_0, ok_name, ok_call, isG_eq, isL_eq, gk_cons, lc_cons, kg, kl, ↓reduceIte, List.all_cons, List.all_nil, List.isEmpty_cons, nstar, nset, nslice, ncall, ncomp, Bool.and_true, Bool.true_and, Bool.not_false, Bool.not_true, and_true, true_and, ne_eq, not_true, not_false_eq_true, List.length_cons, List.length_nil, ite_not, beq_self_eq_true, decide_false, decide_true, Bool.false_eq_true, ↓String.reduceEq, ↓String.reduceNe, Int.reduceLT, Int.reduceLE, Int.reduceGT, Int.reduceGE, Int.reduceEq, Int.reduceNe, Int.reduceNeg, Int.reduceAdd, Int.reduceSub, Int.reduceMul, Int.reduceToNat, Nat.reduceLT, Nat.reduceLeDiff, Nat.reduceAdd, Nat.reduceMul, Nat.reduceEqDiff, z1, z2, if_false, false_and, and_false]
  refine ⟨known_cmp w, C.mono fun d hd => ?_⟩
  subst hd
  simp only [↓s_nil, ↓s_cons, ↓s_pass, ↓s_brk, ↓s_ret, ↓s_asg, ↓s_tup, ↓s_aug, ↓s_if, ↓s_assert, ↓asg_nil, ↓asg_cons, ↓e_int, ↓e_str, ↓e_bool, ↓e_name, ↓e_bin, ↓e_un, ↓e_bool2, ↓e_if, ↓e_cmp, ↓e_call, ↓e_bits, ↓e_sub, ↓e_tup, ↓t_not, ↓t_bool, ↓t_if, ↓t_cmp, ↓t_name, ↓t_call, ↓t_bin, ↓t_const, ↓t_sub, ↓es_nil, ↓es_cons, ↓b_one, ↓b_and, ↓b_or, ↓a_nil_and, ↓a_nil_or, ↓a_and, ↓a_or, ↓c_one, ↓c_more, ↓d_one, ↓d_more, ↓tupk_tup, ↓intk_int, ↓ksq_next, ↓ksq_ret, ↓ksq_brk, ↓ksq_cont, ↓kdf_ret, ↓kdf_next, ↓klp_next, ↓klp_cont, ↓klp_brk, ↓klp_ret, ↓vl_cons, ↓vl_nil, ↓vg_cons, ↓vl0_cons, ↓upk_nil, ↓upk_cons, ↓bv_add, ↓bv_sub, ↓bv_mul, ↓bv_fdiv, ↓bv_mod, ↓bv_shl, ↓bv_shr, ↓bv_and, ↓bv_xor, ↓bv_pow, ↓av_add, ↓av_sub, ↓av_mul, ↓av_shl, ↓av_shr, ↓av_xor, ↓cv_eq, ↓cv_ne, ↓cv_lt, ↓cv_le, ↓cv_gt, ↓cv_ge, ↓cv_str, ↓cv_tup, ↓cv_in, ↓cv_instr, ↓tr_bool, ↓tr_int, ↓uv_neg, ↓uv_not, ↓br_dec, ↓br_tt, ↓br_ff, ↓br_not, ↓sub2_0, ↓sub2_1, ↓sub4_0, ok_name, ok_call, isG_eq, isL_eq, gk_cons, lc_cons, kg, kl, ↓reduceIte, List.all_cons, List.all_nil, List.isEmpty_cons, nstar, nset, nslice, ncall, ncomp, Bool.and_true, Bool.true_and, Bool.not_false, Bool.not_true, and_true, true_and, ne_eq, not_true, not_false_eq_true, List.length_cons, List.length_nil, ite_not, beq_self_eq_true, decide_false, decide_true, Bool.false_eq_true, ↓String.reduceEq, ↓String.reduceNe, Int.reduceLT, Int.reduceLE, Int.reduceGT, Int.reduceGE, Int.reduceEq, Int.reduceNe, Int.reduceNeg, Int.reduceAdd, Int.reduceSub, Int.reduceMul, Int.reduceToNat, Nat.reduceLT, Nat.reduceLeDiff, Nat.reduceAdd, Nat.reduceMul, Nat.reduceEqDiff, ord_lt_iff]
theorem le_spec (w : World) {p1 p2 : Nat} {v u : Rat} {d d' : D} (hq1 : p1 ≤ 2000) (hq2 : p2 ≤ 2000) (h : Pos p1 v d) (h' : Pos p2 u d') (sv : Sz v) (su : Sz u) :
   Spec PP w (KK w) 9 "mpf_le" [d, d'] (· = .bool (decide (v ≤ u))) := by
  have C := cmp_spec w hq1 hq2 h h' sv su
  obtain ⟨m, e, ⟨rfl, ho, b1⟩, rfl⟩ := h
  obtain ⟨m', e', ⟨rfl, ho', b2⟩, rfl⟩ := h'
  have z1 : ((m : Int) = 0) = False := eq_false (by omega)
  have z2 : ((m' : Int) = 0) = False := eq_false (by omega)
  unfold fl at C
  (refine spec_defk (gok _) (d_mpf_le w) ?_; (conv => arg 7; whnf); (conv => arg 5; whnf); (conv => arg 8; simp only [List.cons_append, List.nil_append, List.zip_cons_cons, List.zip_nil_left, List.zip_nil_right, List.append_nil]); (conv => arg 6; unfold GT))
  unfold fl
  simp only [↓s_nil, ↓s_cons, ↓s_pass, ↓s_brk, ↓s_ret, ↓s_asg, ↓s_tup, ↓s_aug, ↓s_if, ↓s_assert, ↓asg_nil, ↓asg_cons, ↓e_int, ↓e_str, ↓e_bool, ↓e_name, ↓e_bin, ↓e_un, ↓e_bool2, ↓e_if, ↓e_cmp, ↓e_call, ↓e_bits, ↓e_sub, ↓e_tup, ↓t_not, ↓t_bool, ↓t_if, ↓t_cmp, ↓t_name, ↓t_call, ↓t_bin, ↓t_const, ↓t_sub, ↓es_nil, ↓es_cons, ↓b_one, ↓b_and, ↓b_or, ↓a_nil_and, ↓a_nil_or, ↓a_and, ↓a_or, ↓c_one, ↓c_more, ↓d_one, ↓d_more, ↓tupk_tup, ↓intk_int, ↓ksq_next, ↓ksq_ret, ↓ksq_brk, ↓ksq_cont, ↓kdf_ret, ↓kdf_next, ↓klp_next, ↓klp_cont, ↓klp_brk, ↓klp_ret, ↓vl_cons, ↓vl_nil, ↓vg_cons, ↓vl0_cons, ↓upk_nil, ↓upk_cons, ↓bv_add, ↓bv_sub, ↓bv_mul, ↓bv_fdiv, ↓bv_mod, ↓bv_shl, ↓bv_shr, ↓bv_and, ↓bv_xor, ↓bv_pow, ↓av_add, ↓av_sub, ↓av_mul, ↓av_shl, ↓av_shr, ↓av_xor, ↓cv_eq, ↓cv_ne, ↓cv_lt, ↓cv_le, ↓cv_gt, ↓cv_ge, ↓cv_str, ↓cv_tup, ↓cv_in, ↓cv_instr, ↓tr_bool, ↓tr_int, ↓uv_neg, ↓uv_not, ↓br_dec, ↓br_tt, ↓br_ff, ↓br_not, ↓sub2_0, ↓sub2_1, ↓sub4_0, ok_name, ok_call, isG_eq, isL_eq, gk_cons, lc_cons, kg, kl, ↓reduceIte, List.all_cons, List.all_nil, List.isEmpty_cons, nstar, nset, nslice, ncall, ncomp, Bool.and_true, Bool.true_and, Bool.not_false, Bool.not_true, and_true, true_and, ne_eq, not_true, not_false_eq_true, List.length_cons, List.length_nil, ite_not, beq_self_eq_true, decide_false, decide_true, Bool.false_eq_true, ↓String.reduceEq, ↓String.reduceNe, Int.reduceLT, Int.reduceLE, Int.reduceGT, Int.reduceGE, Int.reduceEq, Int.reduceNe, Int.reduceNeg, Int.reduceAdd, Int.reduceSub, Int.reduceMul, Int.reduceToNat, Nat.reduceLT, Nat.reduceLeDiff, Nat.reduceAdd, Nat.reduceMul, Nat.reduceEqDiff, z1, z2, if_false, false_and, and_false]
  refine ⟨known_cmp w, C.mono fun d hd => ?_⟩
  subst hd
  simp only [↓s_nil, ↓s_cons, ↓s_pass, ↓s_brk, ↓s_ret, ↓s_asg, ↓s_tup, ↓s_aug, ↓s_if, ↓s_assert, ↓asg_nil, ↓asg_cons, ↓e_int, ↓e_str, ↓e_bool, ↓e_name, ↓e_bin, ↓e_un, ↓e_bool2, ↓e_if, ↓e_cmp, ↓e_call, ↓e_bits, ↓e_sub, ↓e_tup, ↓t_not, ↓t_bool, ↓t_if, ↓t_cmp, ↓t_name, ↓t_call, ↓t_bin, ↓t_const, ↓t_sub, ↓es_nil, ↓es_cons, ↓b_one, ↓b_and, ↓b_or, ↓a_nil_and, ↓a_nil_or, ↓a_and, ↓a_or, ↓c_one, ↓c_more, ↓d_one, ↓d_more, ↓tupk_tup, ↓intk_int, ↓ksq_next, ↓ksq_ret, ↓ksq_brk, ↓ksq_cont, ↓kdf_ret, ↓kdf_next, ↓klp_next, ↓klp_cont, ↓klp_brk, ↓klp_ret, ↓vl_cons, ↓vl_nil, ↓vg_cons, ↓vl0_cons, ↓upk_nil, ↓upk_cons, ↓bv_add, ↓bv_sub, ↓bv_mul, ↓bv_fdiv, ↓bv_mod, ↓bv_shl, ↓bv_shr, ↓bv_and, ↓bv_xor, ↓bv_pow, ↓av_add, ↓av_sub, ↓av_mul, ↓av_shl, ↓av_shr, ↓av_xor, ↓cv_eq, ↓cv_ne, ↓cv_lt, ↓cv_le, ↓cv_gt, ↓cv_ge, ↓cv_str, ↓cv_tup, ↓cv_in, ↓cv_instr, ↓tr_bool, ↓tr_int, ↓uv_neg, ↓uv_not, ↓br_dec, ↓br_tt, ↓br_ff, ↓br_not, ↓sub2_0, ↓sub2_1, ↓sub4_0, ok_name, ok_call, isG_eq, isL_eq, gk_cons, lc_cons, kg, kl, ↓reduceIte, List.all_cons, List.all_nil, List.isEmpty_cons, nstar, nset, nslice, ncall, ncomp, Bool.and_true, Bool.true_and, Bool.not_false, Bool.not_true, and_true, true_and, ne_eq, not_true, not_false_eq_true, List.length_cons, List.length_nil, ite_not, beq_self_eq_true, decide_false, decide_true, Bool.false_eq_true, ↓String.reduceEq, ↓String.reduceNe, Int.reduceLT, Int.reduceLE, Int.reduceGT, Int.reduceGE, Int.reduceEq, Int.reduceNe, Int.reduceNeg, Int.reduceAdd, Int.reduceSub, Int.reduceMul, Int.reduceToNat, Nat.reduceLT, Nat.reduceLeDiff, Nat.reduceAdd, Nat.reduceMul, Nat.reduceEqDiff, ord_le_iff]
theorem ge_spec (w : World) {p1 p2 : Nat} {v u : Rat} {d d' : D} (hq1 : p1 ≤ 2000) (hq2 : p2 ≤ 2000) (h : Pos p1 v d) (h' : Pos p2 u d') (sv : Sz v) (su : Sz u) :
   Spec PP w (KK w) 9 "mpf_ge" [d, d'] (· = .bool (decide (u ≤ v))) := by
  have C := cmp_spec w hq1 hq2 h h' sv su
  obtain ⟨m, e, ⟨rfl, ho, b1⟩, rfl⟩ := h
  obtain ⟨m', e', ⟨rfl, ho', b2⟩, rfl⟩ := h'
  have z1 : ((m : Int) = 0) = False := eq_false (by omega)
  have z2 : ((m' : Int) = 0) = False := eq_false (by omega)
  unfold fl at C
  (refine spec_defk (gok _) (d_mpf_ge w) ?_; (conv => arg 7; whnf); (conv => arg 5; whnf); (conv => arg 8; simp only [List.cons_append, List.nil_append, List.zip_cons_cons, List.zip_nil_left, List.zip_nil_right, List.append_nil]); (conv => arg 6; unfold GT))
  unfold fl
  simp only [↓s_nil, ↓s_cons, ↓s_pass, ↓s_brk, ↓s_ret, ↓s_asg, ↓s_tup, ↓s_aug, ↓s_if, ↓s_assert, ↓asg_nil, ↓asg_cons, ↓e_int, ↓e_str, ↓e_bool, ↓e_name, ↓e_bin, ↓e_un, ↓e_bool2, ↓e_if, ↓e_cmp, ↓e_call, ↓e_bits, ↓e_sub, ↓e_tup, ↓t_not, ↓t_bool, ↓t_if, ↓t_cmp, ↓t_name, ↓t_call, ↓t_bin, ↓t_const, ↓t_sub, ↓es_nil, ↓es_cons, ↓b_one, ↓b_and, ↓b_or, ↓a_nil_and, ↓a_nil_or, ↓a_and, ↓a_or, ↓c_one, ↓c_more, ↓d_one, ↓d_more, ↓tupk_tup, ↓intk_int, ↓ksq_next, ↓ksq_ret, ↓ksq_brk, ↓ksq_cont, ↓kdf_ret, ↓kdf_next, ↓klp_next, ↓klp_cont, ↓klp_brk, ↓klp_ret, ↓vl_cons, ↓vl_nil, ↓vg_cons, ↓vl0_cons, ↓upk_nil, ↓upk_cons, ↓bv_add, ↓bv_sub, ↓bv_mul, ↓bv_fdiv, ↓bv_mod, ↓bv_shl, ↓bv_shr, ↓bv_and, ↓bv_xor, ↓bv_pow, ↓av_add, ↓av_sub, ↓av_mul, ↓av_shl, ↓av_shr, ↓av_xor, ↓cv_eq, ↓cv_ne, ↓cv_lt, ↓cv_le, ↓cv_gt, ↓cv_ge, ↓cv_str, ↓cv_tup, ↓cv_in, ↓cv_instr, ↓tr_bool, ↓tr_int, ↓uv_neg, ↓uv_not, ↓br_dec, ↓br_tt, ↓br_ff, ↓br_not, ↓sub2_0, ↓sub2_1, ↓sub4_0, ok_name, ok_call, isG_eq, isL_eq, gk_cons, lc_cons, kg, kl, ↓reduceIte, List.all_cons, List.all_nil, List.isEmpty_cons, nstar, nset, nslice, ncall, ncomp, Bool.and_true, Bool.true_and, Bool.not_false, Bool.not_true, and_true, true_and, ne_eq, not_true, not_false_eq_true, List.length_cons, List.length_nil, ite_not, beq_self_eq_true, decide_false, decide_true, Bool.false_eq_true, ↓String.reduceEq, ↓String.reduceNe, Int.reduceLT, Int.reduceLE, Int.reduceGT, Int.reduceGE, Int.reduceEq, Int.reduceNe, Int.reduceNeg, Int.reduceAdd, Int.reduceSub, Int.reduceMul, Int.reduceToNat, Nat.reduceLT, Nat.reduceLeDiff, Nat.reduceAdd, Nat.reduceMul, Nat.reduceEqDiff, z1, z2, if_false, false_and, and_false]
  refine ⟨known_cmp w, C.mono fun d hd => ?_⟩
  subst hd
  simp only [↓s_nil, ↓s_cons, ↓s_pass, ↓s_brk, ↓s_ret, ↓s_asg, ↓s_tup, ↓s_aug, ↓s_if, ↓s_assert, ↓asg_nil, ↓asg_cons, ↓e_int, ↓e_str, ↓e_bool, ↓e_name, ↓e_bin, ↓e_un, ↓e_bool2, ↓e_if, ↓e_cmp, ↓e_call, ↓e_bits, ↓e_sub, ↓e_tup, ↓t_not, ↓t_bool, ↓t_if, ↓t_cmp, ↓t_name, ↓t_call, ↓t_bin, ↓t_const, ↓t_sub, ↓es_nil, ↓es_cons, ↓b_one, ↓b_and, ↓b_or, ↓a_nil_and, ↓a_nil_or, ↓a_and, ↓a_or, ↓c_one, ↓c_more, ↓d_one, ↓d_more, ↓tupk_tup, ↓intk_int, ↓ksq_next, ↓ksq_ret, ↓ksq_brk, ↓ksq_cont, ↓kdf_ret, ↓kdf_next, ↓klp_next, ↓klp_cont, ↓klp_brk, ↓klp_ret, ↓vl_cons, ↓vl_nil, ↓vg_cons, ↓vl0_cons, ↓upk_nil, ↓upk_cons, ↓bv_add, ↓bv_sub, ↓bv_mul, ↓bv_fdiv, ↓bv_mod, ↓bv_shl, ↓bv_shr, ↓bv_and, ↓bv_xor, ↓bv_pow, ↓av_add, ↓av_sub, ↓av_mul, ↓av_shl, ↓av_shr, ↓av_xor, ↓cv_eq, ↓cv_ne, ↓cv_lt, ↓cv_le, ↓cv_gt, ↓cv_ge, ↓cv_str, ↓cv_tup, ↓cv_in, ↓cv_instr, ↓tr_bool, ↓tr_int, ↓uv_neg, ↓uv_not, ↓br_dec, ↓br_tt, ↓br_ff, ↓br_not, ↓sub2_0, ↓sub2_1, ↓sub4_0, ok_name, ok_call, isG_eq, isL_eq, gk_cons, lc_cons, kg, kl, ↓reduceIte, List.all_cons, List.all_nil, List.isEmpty_cons, nstar, nset, nslice, ncall, ncomp, Bool.and_true, Bool.true_and, Bool.not_false, Bool.not_true, and_true, true_and, ne_eq, not_true, not_false_eq_true, List.length_cons, List.length_nil, ite_not, beq_self_eq_true, decide_false, decide_true, Bool.false_eq_true, ↓String.reduceEq, ↓String.reduceNe, Int.reduceLT, Int.reduceLE, Int.reduceGT, Int.reduceGE, Int.reduceEq, Int.reduceNe, Int.reduceNeg, Int.reduceAdd, Int.reduceSub, Int.reduceMul, Int.reduceToNat, Nat.reduceLT, Nat.reduceLeDiff, Nat.reduceAdd, Nat.reduceMul, Nat.reduceEqDiff, ord_ge_iff]
end Mine

end
section
open PySem PySem.W PyProof.Rows PySem.Calls
set_option maxRecDepth 100000
namespace Mine
/-- an interval of positive floats -/
def PI (p : Nat) (lo hi : Rat) (d : D) : Prop := ∃ a b, d = .tuple [a, b] ∧ Pos p lo a ∧ Pos p hi b
/-- rounded outward -/
def IR (p : Nat) (v u : Rat) (d : D) : Prop := ∃ lo hi, PI p lo hi d ∧ RDn p v lo ∧ RUp p u hi
theorem Rounded.dn {p : Nat} {v : Rat} {d : D} (h : Rounded 0 p true v d) : ∃ r, Pos p r d ∧ RDn p v r := by
  obtain ⟨M, E, nf, R⟩ := h; exact ⟨_, ⟨M, E, nf, rfl⟩, R⟩
theorem Rounded.up {p : Nat} {v : Rat} {d : D} (h : Rounded 0 p false v d) : ∃ r, Pos p r d ∧ RUp p v r := by
  obtain ⟨M, E, nf, R⟩ := h; exact ⟨_, ⟨M, E, nf, rfl⟩, R⟩
theorem known_iadd (w : World) : Known (KK w) (Str.ofString "mpi_add") := (d_mpi_add w).known
theorem iadd_spec (w : World) {p : Nat} {l1 h1 l2 h2 : Rat} {d d' : D} (hp1 : 1 ≤ p) (hp2 : p ≤ 2000) (h : PI p l1 h1 d) (h' : PI p l2 h2 d') (s1 : Sz l1) (s2 : Sz h1) (s3 : Sz l2) (s4 : Sz h2) :
    Spec PP w (KK w) 7 "mpi_add" [d, d', .int p] (IR p (l1 + l2) (h1 + h2)) := by
  obtain ⟨a, b, rfl, pa, pb⟩ := h
  obtain ⟨a', b', rfl, pa', pb'⟩ := h'
  (refine spec_defk (gok _) (d_mpi_add w) ?_; (conv => arg 7; whnf); (conv => arg 5; whnf); (conv => arg 8; simp only [List.cons_append, List.nil_append, List.zip_cons_cons, List.zip_nil_left, List.zip_nil_right, List.append_nil]); (conv => arg 6; unfold GT))
  simp only [↓s_nil, ↓s_cons, ↓s_pass, ↓s_brk, ↓s_ret, ↓s_asg, ↓s_tup, ↓s_aug, ↓s_if, ↓s_assert, ↓asg_nil, ↓asg_cons, ↓e_int, ↓e_str, ↓e_bool, ↓e_name, ↓e_bin, ↓e_un, ↓e_bool2, ↓e_if, ↓e_cmp, ↓e_call, ↓e_bits, ↓e_sub, ↓e_tup, ↓t_not, ↓t_bool, ↓t_if, ↓t_cmp, ↓t_name, ↓t_call, ↓t_bin, ↓t_const, ↓t_sub, ↓es_nil, ↓es_cons, ↓b_one, ↓b_and, ↓b_or, ↓a_nil_and, ↓a_nil_or, ↓a_and, ↓a_or, ↓c_one, ↓c_more, ↓d_one, ↓d_more, ↓tupk_tup, ↓intk_int, ↓ksq_next, ↓ksq_ret, ↓ksq_brk, ↓ksq_cont, ↓kdf_ret, ↓kdf_next, ↓klp_next, ↓klp_cont, ↓klp_brk, ↓klp_ret, ↓vl_cons, ↓vl_nil, ↓vg_cons, ↓vl0_cons, ↓upk_nil, ↓upk_cons, ↓bv_add, ↓bv_sub, ↓bv_mul, ↓bv_fdiv, ↓bv_mod, ↓bv_shl, ↓bv_shr, ↓bv_and, ↓bv_xor, ↓bv_pow, ↓av_add, ↓av_sub, ↓av_mul, ↓av_shl, ↓av_shr, ↓av_xor, ↓cv_eq, ↓cv_ne, ↓cv_lt, ↓cv_le, ↓cv_gt, ↓cv_ge, ↓cv_str, ↓cv_tup, ↓cv_in, ↓cv_instr, ↓tr_bool, ↓tr_int, ↓uv_neg, ↓uv_not, ↓br_dec, ↓br_tt, ↓br_ff, ↓br_not, ↓sub2_0, ↓sub2_1, ↓sub4_0, ok_name, ok_call, isG_eq, isL_eq, gk_cons, lc_cons, kg, kl, ↓reduceIte, List.all_cons, List.all_nil, List.isEmpty_cons, nstar, nset, nslice, ncall, ncomp, Bool.and_true, Bool.true_and, Bool.not_false, Bool.not_true, and_true, true_and, ne_eq, not_true, not_false_eq_true, List.length_cons, List.length_nil, ite_not, beq_self_eq_true, decide_false, decide_true, Bool.false_eq_true, ↓String.reduceEq, ↓String.reduceNe, Int.reduceLT, Int.reduceLE, Int.reduceGT, Int.reduceGE, Int.reduceEq, Int.reduceNe, Int.reduceNeg, Int.reduceAdd, Int.reduceSub, Int.reduceMul, Int.reduceToNat, Nat.reduceLT, Nat.reduceLeDiff, Nat.reduceAdd, Nat.reduceMul, Nat.reduceEqDiff]
  refine ⟨known_add w, (add_spec w (mode_f0 w) hp1 hp2 pa pa' s1 s3).mono fun x hx => ?_⟩
  refine ⟨known_add w, (add_spec w (mode_c0 w) hp1 hp2 pb pb' s2 s4).mono fun y hy => ?_⟩
  obtain ⟨r, px, rx⟩ := hx.dn
  obtain ⟨t, py, ry⟩ := hy.up
  have R : IR p (l1 + l2) (h1 + h2) (.tuple [x, y]) := ⟨r, t, ⟨x, y, rfl, px, py⟩, rx, ry⟩
  obtain ⟨m, e, ⟨rfl, ho, _⟩, rfl⟩ := px
  obtain ⟨m', e', ⟨rfl, ho', _⟩, rfl⟩ := py
  have z1 : ((m : Int) = 0) = False := eq_false (by omega)
  have z2 : ((m' : Int) = 0) = False := eq_false (by omega)
  unfold fl at R ⊢
  simp only [↓s_nil, ↓s_cons, ↓s_pass, ↓s_brk, ↓s_ret, ↓s_asg, ↓s_tup, ↓s_aug, ↓s_if, ↓s_assert, ↓asg_nil, ↓asg_cons, ↓e_int, ↓e_str, ↓e_bool, ↓e_name, ↓e_bin, ↓e_un, ↓e_bool2, ↓e_if, ↓e_cmp, ↓e_call, ↓e_bits, ↓e_sub, ↓e_tup, ↓t_not, ↓t_bool, ↓t_if, ↓t_cmp, ↓t_name, ↓t_call, ↓t_bin, ↓t_const, ↓t_sub, ↓es_nil, ↓es_cons, ↓b_one, ↓b_and, ↓b_or, ↓a_nil_and, ↓a_nil_or, ↓a_and, ↓a_or, ↓c_one, ↓c_more, ↓d_one, ↓d_more, ↓tupk_tup, ↓intk_int, ↓ksq_next, ↓ksq_ret, ↓ksq_brk, ↓ksq_cont, ↓kdf_ret, ↓kdf_next, ↓klp_next, ↓klp_cont, ↓klp_brk, ↓klp_ret, ↓vl_cons, ↓vl_nil, ↓vg_cons, ↓vl0_cons, ↓upk_nil, ↓upk_cons, ↓bv_add, ↓bv_sub, ↓bv_mul, ↓bv_fdiv, ↓bv_mod, ↓bv_shl, ↓bv_shr, ↓bv_and, ↓bv_xor, ↓bv_pow, ↓av_add, ↓av_sub, ↓av_mul, ↓av_shl, ↓av_shr, ↓av_xor, ↓cv_eq, ↓cv_ne, ↓cv_lt, ↓cv_le, ↓cv_gt, ↓cv_ge, ↓cv_str, ↓cv_tup, ↓cv_in, ↓cv_instr, ↓tr_bool, ↓tr_int, ↓uv_neg, ↓uv_not, ↓br_dec, ↓br_tt, ↓br_ff, ↓br_not, ↓sub2_0, ↓sub2_1, ↓sub4_0, ok_name, ok_call, isG_eq, isL_eq, gk_cons, lc_cons, kg, kl, ↓reduceIte, List.all_cons, List.all_nil, List.isEmpty_cons, nstar, nset, nslice, ncall, ncomp, Bool.and_true, Bool.true_and, Bool.not_false, Bool.not_true, and_true, true_and, ne_eq, not_true, not_false_eq_true, List.length_cons, List.length_nil, ite_not, beq_self_eq_true, decide_false, decide_true, Bool.false_eq_true, ↓String.reduceEq, ↓String.reduceNe, Int.reduceLT, Int.reduceLE, Int.reduceGT, Int.reduceGE, Int.reduceEq, Int.reduceNe, Int.reduceNeg, Int.reduceAdd, Int.reduceSub, Int.reduceMul, Int.reduceToNat, Nat.reduceLT, Nat.reduceLeDiff, Nat.reduceAdd, Nat.reduceMul, Nat.reduceEqDiff, z1, z2, false_and, and_false, if_false]
  exact R
/-- what a subtraction hands back: nought, or the difference rounded -/
def SubF (p : Nat) (dn : Bool) (v u : Rat) (a : D) : Prop := (v = u ∧ a = fl 0 0 0 0) ∨ (u < v ∧ Rounded 0 p dn (v - u) a)
theorem Diff.sub {p : Nat} {dn dn1 : Bool} {v u : Rat} {a : D} (h : Diff (Rounded 0 p dn) (Rounded 1 p dn1) v u a) (hle : u ≤ v) : SubF p dn v u a := by
  rcases h with h | h | h
  · exact .inl h
  · exact .inr h
  · exact absurd h.1 (by grind)
/-- what is surely not the float without a value -/
theorem SubF.shape {p : Nat} {dn : Bool} {v u : Rat} {a : D} (h : SubF p dn v u a) : ∃ (m : Nat) (e : Int) (b : Int), a = fl 0 m e b ∧ ((m : Int) = 0 → e = 0) := by
  rcases h with ⟨_, rfl⟩ | ⟨_, M, E, ⟨rfl, ho, _⟩, _⟩
  · exact ⟨0, 0, 0, rfl, fun _ => rfl⟩
  · exact ⟨M, E, _, rfl, fun h => by omega⟩
theorem known_isub (w : World) : Known (KK w) (Str.ofString "mpi_sub") := (d_mpi_sub w).known
/-- two values of one magnitude -/
def Mag (v u : Rat) : Prop := ∃ k : Int, pw k ≤ v ∧ v < pw (k + 1) ∧ pw k ≤ u ∧ u < pw (k + 1)
theorem isub_spec (w : World) {p q : Nat} {l1 h1 l2 h2 : Rat} {d d' : D} (hp1 : 1 ≤ p) (hp2 : p ≤ 2000) (hq2 : q ≤ 2000) (h : PI p l1 h1 d) (h' : PI q l2 h2 d') (s1 : Sz l1) (s2 : Sz h1) (s3 : Sz l2) (s4 : Sz h2)
    (m1 : Mag l1 h2) (m2 : Mag h1 l2) (o1 : h2 ≤ l1) (o2 : l2 ≤ h1) :
    Spec PP w (KK w) 8 "mpi_sub" [d, d', .int p] (fun z => ∃ a b, z = .tuple [a, b] ∧ SubF p true l1 h2 a ∧ SubF p false h1 l2 b) := by
  obtain ⟨a, b, rfl, pa, pb⟩ := h
  obtain ⟨a', b', rfl, pa', pb'⟩ := h'
  (refine spec_defk (gok _) (d_mpi_sub w) ?_; (conv => arg 7; whnf); (conv => arg 5; whnf); (conv => arg 8; simp only [List.cons_append, List.nil_append, List.zip_cons_cons, List.zip_nil_left, List.zip_nil_right, List.append_nil]); (conv => arg 6; unfold GT))
  simp only [↓s_nil, ↓s_cons, ↓s_pass, ↓s_brk, ↓s_ret, ↓s_asg, ↓s_tup, ↓s_aug, ↓s_if, ↓s_assert, ↓asg_nil, ↓asg_cons, ↓e_int, ↓e_str, ↓e_bool, ↓e_name, ↓e_bin, ↓e_un, ↓e_bool2, ↓e_if, ↓e_cmp, ↓e_call, ↓e_bits, ↓e_sub, ↓e_tup, ↓t_not, ↓t_bool, ↓t_if, ↓t_cmp, ↓t_name, ↓t_call, ↓t_bin, ↓t_const, ↓t_sub, ↓es_nil, ↓es_cons, ↓b_one, ↓b_and, ↓b_or, ↓a_nil_and, ↓a_nil_or, ↓a_and, ↓a_or, ↓c_one, ↓c_more, ↓d_one, ↓d_more, ↓tupk_tup, ↓intk_int, ↓ksq_next, ↓ksq_ret, ↓ksq_brk, ↓ksq_cont, ↓kdf_ret, ↓kdf_next, ↓klp_next, ↓klp_cont, ↓klp_brk, ↓klp_ret, ↓vl_cons, ↓vl_nil, ↓vg_cons, ↓vl0_cons, ↓upk_nil, ↓upk_cons, ↓bv_add, ↓bv_sub, ↓bv_mul, ↓bv_fdiv, ↓bv_mod, ↓bv_shl, ↓bv_shr, ↓bv_and, ↓bv_xor, ↓bv_pow, ↓av_add, ↓av_sub, ↓av_mul, ↓av_shl, ↓av_shr, ↓av_xor, ↓cv_eq, ↓cv_ne, ↓cv_lt, ↓cv_le, ↓cv_gt, ↓cv_ge, ↓cv_str, ↓cv_tup, ↓cv_in, ↓cv_instr, ↓tr_bool, ↓tr_int, ↓uv_neg, ↓uv_not, ↓br_dec, ↓br_tt, ↓br_ff, ↓br_not, ↓sub2_0, ↓sub2_1, ↓sub4_0, ok_name, ok_call, isG_eq, isL_eq, gk_cons, lc_cons, kg, kl, ↓reduceIte, List.all_cons, List.all_nil, List.isEmpty_cons, nstar, nset, nslice, ncall, ncomp, Bool.and_true, Bool.true_and, Bool.not_false, Bool.not_true, and_true, true_and, ne_eq, not_true, not_false_eq_true, List.length_cons, List.length_nil, ite_not, beq_self_eq_true, decide_false, decide_true, Bool.false_eq_true, ↓String.reduceEq, ↓String.reduceNe, Int.reduceLT, Int.reduceLE, Int.reduceGT, Int.reduceGE, Int.reduceEq, Int.reduceNe, Int.reduceNeg, Int.reduceAdd, Int.reduceSub, Int.reduceMul, Int.reduceToNat, Nat.reduceLT, Nat.reduceLeDiff, Nat.reduceAdd, Nat.reduceMul, Nat.reduceEqDiff]
  refine ⟨known_sub w, (sub4_spec w (mode_f0 w) (mode_f1 w) hp1 hp2 hq2 pa pb' s1 s4 m1).mono fun x hx => ?_⟩
  refine ⟨known_sub w, (sub4_spec w (mode_c0 w) (mode_c1 w) hp1 hp2 hq2 pb pa' s2 s3 m2).mono fun y hy => ?_⟩
  have hx := hx.sub o1
  have hy := hy.sub o2
  obtain ⟨m, e, q, rfl, hm⟩ := hx.shape
  obtain ⟨m', e', q', rfl, hm'⟩ := hy.shape
  have z1 : (((0 : Int) = 0) ∧ (m : Int) = 0 ∧ e = -123 ∧ q = -1) = False := eq_false fun h => by have := hm h.2.1; omega
  have z2 : (((0 : Int) = 0) ∧ (m' : Int) = 0 ∧ e' = -123 ∧ q' = -1) = False := eq_false fun h => by have := hm' h.2.1; omega
  simp only [true_and] at z1 z2
  unfold fl at hx hy ⊢
  simp only [↓s_nil, ↓s_cons, ↓s_pass, ↓s_brk, ↓s_ret, ↓s_asg, ↓s_tup, ↓s_aug, ↓s_if, ↓s_assert, ↓asg_nil, ↓asg_cons, ↓e_int, ↓e_str, ↓e_bool, ↓e_name, ↓e_bin, ↓e_un, ↓e_bool2, ↓e_if, ↓e_cmp, ↓e_call, ↓e_bits, ↓e_sub, ↓e_tup, ↓t_not, ↓t_bool, ↓t_if, ↓t_cmp, ↓t_name, ↓t_call, ↓t_bin, ↓t_const, ↓t_sub, ↓es_nil, ↓es_cons, ↓b_one, ↓b_and, ↓b_or, ↓a_nil_and, ↓a_nil_or, ↓a_and, ↓a_or, ↓c_one, ↓c_more, ↓d_one, ↓d_more, ↓tupk_tup, ↓intk_int, ↓ksq_next, ↓ksq_ret, ↓ksq_brk, ↓ksq_cont, ↓kdf_ret, ↓kdf_next, ↓klp_next, ↓klp_cont, ↓klp_brk, ↓klp_ret, ↓vl_cons, ↓vl_nil, ↓vg_cons, ↓vl0_cons, ↓upk_nil, ↓upk_cons, ↓bv_add, ↓bv_sub, ↓bv_mul, ↓bv_fdiv, ↓bv_mod, ↓bv_shl, ↓bv_shr, ↓bv_and, ↓bv_xor, ↓bv_pow, ↓av_add, ↓av_sub, ↓av_mul, ↓av_shl, ↓av_shr, ↓av_xor, ↓cv_eq, ↓cv_ne, ↓cv_lt, ↓cv_le, ↓cv_gt, ↓cv_ge, ↓cv_str, ↓cv_tup, ↓cv_in, ↓cv_instr, ↓tr_bool, ↓tr_int, ↓uv_neg, ↓uv_not, ↓br_dec, ↓br_tt, ↓br_ff, ↓br_not, ↓sub2_0, ↓sub2_1, ↓sub4_0, ok_name, ok_call, isG_eq, isL_eq, gk_cons, lc_cons, kg, kl, ↓reduceIte, List.all_cons, List.all_nil, List.isEmpty_cons, nstar, nset, nslice, ncall, ncomp, Bool.and_true, Bool.true_and, Bool.not_false, Bool.not_true, and_true, true_and, ne_eq, not_true, not_false_eq_true, List.length_cons, List.length_nil, ite_not, beq_self_eq_true, decide_false, decide_true, Bool.false_eq_true, ↓String.reduceEq, ↓String.reduceNe, Int.reduceLT, Int.reduceLE, Int.reduceGT, Int.reduceGE, Int.reduceEq, Int.reduceNe, Int.reduceNeg, Int.reduceAdd, Int.reduceSub, Int.reduceMul, Int.reduceToNat, Nat.reduceLT, Nat.reduceLeDiff, Nat.reduceAdd, Nat.reduceMul, Nat.reduceEqDiff, z1, z2, if_false]
  exact ⟨_, _, rfl, hx, hy⟩
theorem known_idiv (w : World) : Known (KK w) (Str.ofString "mpi_div") := (d_mpi_div w).known
theorem idiv_spec (w : World) {p p1 p2 : Nat} {l1 h1 l2 h2 : Rat} {d d' : D} (hp1 : 1 ≤ p) (hp2 : p ≤ 2000) (hq1 : p1 ≤ 2000) (hq2 : p2 ≤ 2000) (h : PI p1 l1 h1 d) (h' : PI p2 l2 h2 d') :
    Spec PP w (KK w) 5 "mpi_div" [d, d', .int p] (IR p (l1 / h2) (h1 / l2)) := by
  obtain ⟨a, b, rfl, pa, pb⟩ := h
  obtain ⟨a', b', rfl, pa', pb'⟩ := h'
  (refine spec_defk (gok _) (d_mpi_div w) ?_; (conv => arg 7; whnf); (conv => arg 5; whnf); (conv => arg 8; simp only [List.cons_append, List.nil_append, List.zip_cons_cons, List.zip_nil_left, List.zip_nil_right, List.append_nil]); (conv => arg 6; unfold GT))
  simp only [↓s_nil, ↓s_cons, ↓s_pass, ↓s_brk, ↓s_ret, ↓s_asg, ↓s_tup, ↓s_aug, ↓s_if, ↓s_assert, ↓asg_nil, ↓asg_cons, ↓e_int, ↓e_str, ↓e_bool, ↓e_name, ↓e_bin, ↓e_un, ↓e_bool2, ↓e_if, ↓e_cmp, ↓e_call, ↓e_bits, ↓e_sub, ↓e_tup, ↓t_not, ↓t_bool, ↓t_if, ↓t_cmp, ↓t_name, ↓t_call, ↓t_bin, ↓t_const, ↓t_sub, ↓es_nil, ↓es_cons, ↓b_one, ↓b_and, ↓b_or, ↓a_nil_and, ↓a_nil_or, ↓a_and, ↓a_or, ↓c_one, ↓c_more, ↓d_one, ↓d_more, ↓tupk_tup, ↓intk_int, ↓ksq_next, ↓ksq_ret, ↓ksq_brk, ↓ksq_cont, ↓kdf_ret, ↓kdf_next, ↓klp_next, ↓klp_cont, ↓klp_brk, ↓klp_ret, ↓vl_cons, ↓vl_nil, ↓vg_cons, ↓vl0_cons, ↓upk_nil, ↓upk_cons, ↓bv_add, ↓bv_sub, ↓bv_mul, ↓bv_fdiv, ↓bv_mod, ↓bv_shl, ↓bv_shr, ↓bv_and, ↓bv_xor, ↓bv_pow, ↓av_add, ↓av_sub, ↓av_mul, ↓av_shl, ↓av_shr, ↓av_xor, ↓cv_eq, ↓cv_ne, ↓cv_lt, ↓cv_le, ↓cv_gt, ↓cv_ge, ↓cv_str, ↓cv_tup, ↓cv_in, ↓cv_instr, ↓tr_bool, ↓tr_int, ↓uv_neg, ↓uv_not, ↓br_dec, ↓br_tt, ↓br_ff, ↓br_not, ↓sub2_0, ↓sub2_1, ↓sub4_0, ok_name, ok_call, isG_eq, isL_eq, gk_cons, lc_cons, kg, kl, ↓reduceIte, List.all_cons, List.all_nil, List.isEmpty_cons, nstar, nset, nslice, ncall, ncomp, Bool.and_true, Bool.true_and, Bool.not_false, Bool.not_true, and_true, true_and, ne_eq, not_true, not_false_eq_true, List.length_cons, List.length_nil, ite_not, beq_self_eq_true, decide_false, decide_true, Bool.false_eq_true, ↓String.reduceEq, ↓String.reduceNe, Int.reduceLT, Int.reduceLE, Int.reduceGT, Int.reduceGE, Int.reduceEq, Int.reduceNe, Int.reduceNeg, Int.reduceAdd, Int.reduceSub, Int.reduceMul, Int.reduceToNat, Nat.reduceLT, Nat.reduceLeDiff, Nat.reduceAdd, Nat.reduceMul, Nat.reduceEqDiff]
  refine ⟨known_sign w, (sign_spec w pa).mono fun x hx => ?_⟩
  subst hx
  refine ⟨known_sign w, (sign_spec w pb).mono fun x hx => ?_⟩
  subst hx
  refine ⟨known_sign w, (sign_spec w pa').mono fun x hx => ?_⟩
  subst hx
  refine ⟨known_sign w, (sign_spec w pb').mono fun x hx => ?_⟩
  subst hx
  simp only [↓s_nil, ↓s_cons, ↓s_pass, ↓s_brk, ↓s_ret, ↓s_asg, ↓s_tup, ↓s_aug, ↓s_if, ↓s_assert, ↓asg_nil, ↓asg_cons, ↓e_int, ↓e_str, ↓e_bool, ↓e_name, ↓e_bin, ↓e_un, ↓e_bool2, ↓e_if, ↓e_cmp, ↓e_call, ↓e_bits, ↓e_sub, ↓e_tup, ↓t_not, ↓t_bool, ↓t_if, ↓t_cmp, ↓t_name, ↓t_call, ↓t_bin, ↓t_const, ↓t_sub, ↓es_nil, ↓es_cons, ↓b_one, ↓b_and, ↓b_or, ↓a_nil_and, ↓a_nil_or, ↓a_and, ↓a_or, ↓c_one, ↓c_more, ↓d_one, ↓d_more, ↓tupk_tup, ↓intk_int, ↓ksq_next, ↓ksq_ret, ↓ksq_brk, ↓ksq_cont, ↓kdf_ret, ↓kdf_next, ↓klp_next, ↓klp_cont, ↓klp_brk, ↓klp_ret, ↓vl_cons, ↓vl_nil, ↓vg_cons, ↓vl0_cons, ↓upk_nil, ↓upk_cons, ↓bv_add, ↓bv_sub, ↓bv_mul, ↓bv_fdiv, ↓bv_mod, ↓bv_shl, ↓bv_shr, ↓bv_and, ↓bv_xor, ↓bv_pow, ↓av_add, ↓av_sub, ↓av_mul, ↓av_shl, ↓av_shr, ↓av_xor, ↓cv_eq, ↓cv_ne, ↓cv_lt, ↓cv_le, ↓cv_gt, ↓cv_ge, ↓cv_str, ↓cv_tup, ↓cv_in, ↓cv_instr, ↓tr_bool, ↓tr_int, ↓uv_neg, ↓uv_not, ↓br_dec, ↓br_tt, ↓br_ff, ↓br_not, ↓sub2_0, ↓sub2_1, ↓sub4_0, ok_name, ok_call, isG_eq, isL_eq, gk_cons, lc_cons, kg, kl, ↓reduceIte, List.all_cons, List.all_nil, List.isEmpty_cons, nstar, nset, nslice, ncall, ncomp, Bool.and_true, Bool.true_and, Bool.not_false, Bool.not_true, and_true, true_and, ne_eq, not_true, not_false_eq_true, List.length_cons, List.length_nil, ite_not, beq_self_eq_true, decide_false, decide_true, Bool.false_eq_true, ↓String.reduceEq, ↓String.reduceNe, Int.reduceLT, Int.reduceLE, Int.reduceGT, Int.reduceGE, Int.reduceEq, Int.reduceNe, Int.reduceNeg, Int.reduceAdd, Int.reduceSub, Int.reduceMul, Int.reduceToNat, Nat.reduceLT, Nat.reduceLeDiff, Nat.reduceAdd, Nat.reduceMul, Nat.reduceEqDiff]
  refine ⟨known_div w, (div_spec w (mode_f0 w) hp1 pa pb' ⟨hp2, hq1, hq2⟩).mono fun x hx => ?_⟩
  refine ⟨known_div w, (div_spec w (mode_c0 w) hp1 pb pa' ⟨hp2, hq1, hq2⟩).mono fun y hy => ?_⟩
  obtain ⟨r, px, rx⟩ := hx.dn
  obtain ⟨t, py, ry⟩ := hy.up
  have R : IR p (l1 / h2) (h1 / l2) (.tuple [x, y]) := ⟨r, t, ⟨x, y, rfl, px, py⟩, rx, ry⟩
  obtain ⟨m, e, ⟨rfl, ho, _⟩, rfl⟩ := px
  obtain ⟨m', e', ⟨rfl, ho', _⟩, rfl⟩ := py
  have z1 : ((m : Int) = 0) = False := eq_false (by omega)
  have z2 : ((m' : Int) = 0) = False := eq_false (by omega)
  unfold fl at R ⊢
  simp only [↓s_nil, ↓s_cons, ↓s_pass, ↓s_brk, ↓s_ret, ↓s_asg, ↓s_tup, ↓s_aug, ↓s_if, ↓s_assert, ↓asg_nil, ↓asg_cons, ↓e_int, ↓e_str, ↓e_bool, ↓e_name, ↓e_bin, ↓e_un, ↓e_bool2, ↓e_if, ↓e_cmp, ↓e_call, ↓e_bits, ↓e_sub, ↓e_tup, ↓t_not, ↓t_bool, ↓t_if, ↓t_cmp, ↓t_name, ↓t_call, ↓t_bin, ↓t_const, ↓t_sub, ↓es_nil, ↓es_cons, ↓b_one, ↓b_and, ↓b_or, ↓a_nil_and, ↓a_nil_or, ↓a_and, ↓a_or, ↓c_one, ↓c_more, ↓d_one, ↓d_more, ↓tupk_tup, ↓intk_int, ↓ksq_next, ↓ksq_ret, ↓ksq_brk, ↓ksq_cont, ↓kdf_ret, ↓kdf_next, ↓klp_next, ↓klp_cont, ↓klp_brk, ↓klp_ret, ↓vl_cons, ↓vl_nil, ↓vg_cons, ↓vl0_cons, ↓upk_nil, ↓upk_cons, ↓bv_add, ↓bv_sub, ↓bv_mul, ↓bv_fdiv, ↓bv_mod, ↓bv_shl, ↓bv_shr, ↓bv_and, ↓bv_xor, ↓bv_pow, ↓av_add, ↓av_sub, ↓av_mul, ↓av_shl, ↓av_shr, ↓av_xor, ↓cv_eq, ↓cv_ne, ↓cv_lt, ↓cv_le, ↓cv_gt, ↓cv_ge, ↓cv_str, ↓cv_tup, ↓cv_in, ↓cv_instr, ↓tr_bool, ↓tr_int, ↓uv_neg, ↓uv_not, ↓br_dec, ↓br_tt, ↓br_ff, ↓br_not, ↓sub2_0, ↓sub2_1, ↓sub4_0, ok_name, ok_call, isG_eq, isL_eq, gk_cons, lc_cons, kg, kl, ↓reduceIte, List.all_cons, List.all_nil, List.isEmpty_cons, nstar, nset, nslice, ncall, ncomp, Bool.and_true, Bool.true_and, Bool.not_false, Bool.not_true, and_true, true_and, ne_eq, not_true, not_false_eq_true, List.length_cons, List.length_nil, ite_not, beq_self_eq_true, decide_false, decide_true, Bool.false_eq_true, ↓String.reduceEq, ↓String.reduceNe, Int.reduceLT, Int.reduceLE, Int.reduceGT, Int.reduceGE, Int.reduceEq, Int.reduceNe, Int.reduceNeg, Int.reduceAdd, Int.reduceSub, Int.reduceMul, Int.reduceToNat, Nat.reduceLT, Nat.reduceLeDiff, Nat.reduceAdd, Nat.reduceMul, Nat.reduceEqDiff, z1, z2, false_and, and_false, if_false]
  exact R
/-- the interval of a root -/
def IRoot (p : Nat) (n : Rat) (d : D) : Prop := ∃ lo hi, PI p lo hi d ∧ SDn p n lo ∧ SUp p n hi
theorem known_isqrt2 (w : World) : Known (KK w) (Str.ofString "mpi_sqrt") := (d_mpi_sqrt w).known
theorem misqrt_spec (w : World) {p N : Nat} {d d' : D} (hN : 0 < N) (hb : bl N ≤ 100) (hp1 : 1 ≤ p) (hp2 : p ≤ 200) (h : IsF 0 N 0 d) (h' : IsF 0 N 0 d') :
    Spec PP w (KK w) 7 "mpi_sqrt" [.tuple [d, d'], .int p] (IRoot p N) := by
  (refine spec_defk (gok _) (d_mpi_sqrt w) ?_; (conv => arg 7; whnf); (conv => arg 5; whnf); (conv => arg 8; simp only [List.cons_append, List.nil_append, List.zip_cons_cons, List.zip_nil_left, List.zip_nil_right, List.append_nil]); (conv => arg 6; unfold GT))
  simp only [↓s_nil, ↓s_cons, ↓s_pass, ↓s_brk, ↓s_ret, ↓s_asg, ↓s_tup, ↓s_aug, ↓s_if, ↓s_assert, ↓asg_nil, ↓asg_cons, ↓e_int, ↓e_str, ↓e_bool, ↓e_name, ↓e_bin, ↓e_un, ↓e_bool2, ↓e_if, ↓e_cmp, ↓e_call, ↓e_bits, ↓e_sub, ↓e_tup, ↓t_not, ↓t_bool, ↓t_if, ↓t_cmp, ↓t_name, ↓t_call, ↓t_bin, ↓t_const, ↓t_sub, ↓es_nil, ↓es_cons, ↓b_one, ↓b_and, ↓b_or, ↓a_nil_and, ↓a_nil_or, ↓a_and, ↓a_or, ↓c_one, ↓c_more, ↓d_one, ↓d_more, ↓tupk_tup, ↓intk_int, ↓ksq_next, ↓ksq_ret, ↓ksq_brk, ↓ksq_cont, ↓kdf_ret, ↓kdf_next, ↓klp_next, ↓klp_cont, ↓klp_brk, ↓klp_ret, ↓vl_cons, ↓vl_nil, ↓vg_cons, ↓vl0_cons, ↓upk_nil, ↓upk_cons, ↓bv_add, ↓bv_sub, ↓bv_mul, ↓bv_fdiv, ↓bv_mod, ↓bv_shl, ↓bv_shr, ↓bv_and, ↓bv_xor, ↓bv_pow, ↓av_add, ↓av_sub, ↓av_mul, ↓av_shl, ↓av_shr, ↓av_xor, ↓cv_eq, ↓cv_ne, ↓cv_lt, ↓cv_le, ↓cv_gt, ↓cv_ge, ↓cv_str, ↓cv_tup, ↓cv_in, ↓cv_instr, ↓tr_bool, ↓tr_int, ↓uv_neg, ↓uv_not, ↓br_dec, ↓br_tt, ↓br_ff, ↓br_not, ↓sub2_0, ↓sub2_1, ↓sub4_0, ok_name, ok_call, isG_eq, isL_eq, gk_cons, lc_cons, kg, kl, ↓reduceIte, List.all_cons, List.all_nil, List.isEmpty_cons, nstar, nset, nslice, ncall, ncomp, Bool.and_true, Bool.true_and, Bool.not_false, Bool.not_true, and_true, true_and, ne_eq, not_true, not_false_eq_true, List.length_cons, List.length_nil, ite_not, beq_self_eq_true, decide_false, decide_true, Bool.false_eq_true, ↓String.reduceEq, ↓String.reduceNe, Int.reduceLT, Int.reduceLE, Int.reduceGT, Int.reduceGE, Int.reduceEq, Int.reduceNe, Int.reduceNeg, Int.reduceAdd, Int.reduceSub, Int.reduceMul, Int.reduceToNat, Nat.reduceLT, Nat.reduceLeDiff, Nat.reduceAdd, Nat.reduceMul, Nat.reduceEqDiff]
  refine ⟨known_sqrt w, (sqrt_f w hN hb hp1 hp2 h).mono fun x hx => ?_⟩
  refine ⟨known_sqrt w, (sqrt_c w hN hb hp1 hp2 h').mono fun y hy => ?_⟩
  obtain ⟨M, E, nf, R⟩ := hx
  obtain ⟨M', E', nf', R'⟩ := hy
  exact ⟨_, _, ⟨x, y, rfl, ⟨M, E, nf, rfl⟩, ⟨M', E', nf', rfl⟩⟩, R, R'⟩
end Mine

end
section
open PySem PySem.W PyProof.Rows PySem.Calls
set_option maxRecDepth 100000
namespace Mine
theorem known_lroot (w : World) : Known (KK w) (Str.ofString "_law_root") := (d_ulaw_root w).known
theorem isq_uniq {x r t : Nat} (h1 : r * r ≤ x) (h2 : x < (r + 1) * (r + 1)) (h3 : t * t ≤ x) (h4 : x < (t + 1) * (t + 1)) : r = t := by
  rcases Nat.lt_trichotomy r t with h | h | h
  · have := Nat.mul_le_mul (show r + 1 ≤ t from h) (show r + 1 ≤ t from h); omega
  · exact h
  · have := Nat.mul_le_mul (show t + 1 ≤ r from h) (show t + 1 ≤ r from h); omega
/-- the search's state -/
def RootI (n B : Nat) (m : Nat) (ρ : Ev) : Prop := ∃ l h : Nat, l < h ∧ h ≤ B ∧ l * l ≤ n ∧ n < h * h ∧ m = h - l ∧
  (ρ = ([(Str.ofString "n", PyData.int n), (Str.ofString "low", PyData.int l), (Str.ofString "high", PyData.int h)] : Ev) ∨
   ∃ y, ρ = ([(Str.ofString "n", PyData.int n), (Str.ofString "low", PyData.int l), (Str.ofString "high", PyData.int h), (Str.ofString "mid", PyData.int y)] : Ev))
theorem lroot_spec (w : World) {n : Nat} (hb : bl n ≤ 100) : Spec PP w (KK w) 1 "_law_root" [.int n] (RootOf n) := by
  (refine spec_defk (gok _) (d_ulaw_root w) ?_; (conv => arg 7; whnf); (conv => arg 5; whnf); (conv => arg 8; simp only [List.cons_append, List.nil_append, List.zip_cons_cons, List.zip_nil_left, List.zip_nil_right, List.append_nil]); (conv => arg 6; unfold GT))
  simp only [↓s_nil, ↓s_cons, ↓s_pass, ↓s_brk, ↓s_ret, ↓s_asg, ↓s_tup, ↓s_aug, ↓s_if, ↓s_assert, ↓asg_nil, ↓asg_cons, ↓e_int, ↓e_str, ↓e_bool, ↓e_name, ↓e_bin, ↓e_un, ↓e_bool2, ↓e_if, ↓e_cmp, ↓e_call, ↓e_bits, ↓e_sub, ↓e_tup, ↓t_not, ↓t_bool, ↓t_if, ↓t_cmp, ↓t_name, ↓t_call, ↓t_bin, ↓t_const, ↓t_sub, ↓es_nil, ↓es_cons, ↓b_one, ↓b_and, ↓b_or, ↓a_nil_and, ↓a_nil_or, ↓a_and, ↓a_or, ↓c_one, ↓c_more, ↓d_one, ↓d_more, ↓tupk_tup, ↓intk_int, ↓ksq_next, ↓ksq_ret, ↓ksq_brk, ↓ksq_cont, ↓kdf_ret, ↓kdf_next, ↓klp_next, ↓klp_cont, ↓klp_brk, ↓klp_ret, ↓vl_cons, ↓vl_nil, ↓vg_cons, ↓vl0_cons, ↓upk_nil, ↓upk_cons, ↓bv_add, ↓bv_sub, ↓bv_mul, ↓bv_fdiv, ↓bv_mod, ↓bv_shl, ↓bv_shr, ↓bv_and, ↓bv_xor, ↓bv_pow, ↓av_add, ↓av_sub, ↓av_mul, ↓av_shl, ↓av_shr, ↓av_xor, ↓cv_eq, ↓cv_ne, ↓cv_lt, ↓cv_le, ↓cv_gt, ↓cv_ge, ↓cv_str, ↓cv_tup, ↓cv_in, ↓cv_instr, ↓tr_bool, ↓tr_int, ↓uv_neg, ↓uv_not, ↓br_dec, ↓br_tt, ↓br_ff, ↓br_not, ↓sub2_0, ↓sub2_1, ↓sub4_0, ok_name, ok_call, isG_eq, isL_eq, gk_cons, lc_cons, kg, kl, ↓reduceIte, List.all_cons, List.all_nil, List.isEmpty_cons, nstar, nset, nslice, ncall, ncomp, Bool.and_true, Bool.true_and, Bool.not_false, Bool.not_true, and_true, true_and, ne_eq, not_true, not_false_eq_true, List.length_cons, List.length_nil, ite_not, beq_self_eq_true, decide_false, decide_true, Bool.false_eq_true, ↓String.reduceEq, ↓String.reduceNe, Int.reduceLT, Int.reduceLE, Int.reduceGT, Int.reduceGE, Int.reduceEq, Int.reduceNe, Int.reduceNeg, Int.reduceAdd, Int.reduceSub, Int.reduceMul, Int.reduceToNat, Nat.reduceLT, Nat.reduceLeDiff, Nat.reduceAdd, Nat.reduceMul, Nat.reduceEqDiff]
  have c0 : ((Builtin.Int.intBits (n : Int) : Int)).fdiv 2 + 1 = ((bl n / 2 + 1 : Nat) : Int) := by
    have : ((Builtin.Int.intBits (n : Int) : Int)).fdiv 2 = ((bl n / 2 : Nat) : Int) := fdiv_nat (bl n) 2
    omega
  rw [c0]
  refine ⟨by decide +kernel, by decide, ⟨by omega, ?_⟩, ?_⟩
  · show ((bl 1 : Nat) : Int) + _ ≤ _; rw [bl_one]; omega
  rw [Int.toNat_natCast, Int.one_mul, two_cast, s_while]
  have hB : bl (2 ^ (bl n / 2 + 1)) ≤ 60 := by
    have : bl (1 * 2 ^ (bl n / 2 + 1)) = bl 1 + (bl n / 2 + 1) := bl_shift (by decide)
    rw [Nat.one_mul, bl_one] at this; omega
  refine ⟨RootI n (2 ^ (bl n / 2 + 1)), ⟨_, 0, 2 ^ (bl n / 2 + 1), Nat.two_pow_pos _, Nat.le_refl _, Nat.zero_le _, ?_, rfl, .inl rfl⟩, ?_⟩
  · have a1 := bl_up n
    have a2 : 2 ^ bl n ≤ 2 ^ (bl n / 2 + 1) * 2 ^ (bl n / 2 + 1) := by rw [← Nat.pow_add]; exact Nat.pow_le_pow_right (by decide) (by omega)
    omega
  · rintro m ρ' ⟨l, h, hlh, hhB, hl, hh, rfl, hρ⟩
    have hmid : ((l : Int) + h).fdiv 2 = (((l + h) / 2 : Nat) : Int) := by
      rw [show (l : Int) + h = ((l + h : Nat) : Int) by omega]; exact fdiv_nat (l + h) 2
    have hbm : bl ((l + h) / 2) ≤ 60 := Nat.le_trans (bl_mono (by omega)) hB
    have hok : IntMulOk (((l + h) / 2 : Nat) : Int) (((l + h) / 2 : Nat) : Int) := IntMulOk.of_le (m := 60) (n := 60) hbm hbm (by decide)
    have hc : (((l + h) / 2 : Nat) : Int) * (((l + h) / 2 : Nat) : Int) = ((((l + h) / 2) * ((l + h) / 2) : Nat) : Int) := by push_cast; rfl
    have hend : ¬ (1 : Int) < (h : Int) - l → RootOf n (.int l) := fun q => ⟨l, rfl, hl, by
      have : h = l + 1 := by omega
      rw [this] at hh; exact hh⟩
    rcases hρ with rfl | ⟨y, rfl⟩
    all_goals
      simp only [↓s_nil, ↓s_cons, ↓s_pass, ↓s_brk, ↓s_ret, ↓s_asg, ↓s_tup, ↓s_aug, ↓s_if, ↓s_assert, ↓asg_nil, ↓asg_cons, ↓e_int, ↓e_str, ↓e_bool, ↓e_name, ↓e_bin, ↓e_un, ↓e_bool2, ↓e_if, ↓e_cmp, ↓e_call, ↓e_bits, ↓e_sub, ↓e_tup, ↓t_not, ↓t_bool, ↓t_if, ↓t_cmp, ↓t_name, ↓t_call, ↓t_bin, ↓t_const, ↓t_sub, ↓es_nil, ↓es_cons, ↓b_one, ↓b_and, ↓b_or, ↓a_nil_and, ↓a_nil_or, ↓a_and, ↓a_or, ↓c_one, ↓c_more, ↓d_one, ↓d_more, ↓tupk_tup, ↓intk_int, ↓ksq_next, ↓ksq_ret, ↓ksq_brk, ↓ksq_cont, ↓kdf_ret, ↓kdf_next, ↓klp_next, ↓klp_cont, ↓klp_brk, ↓klp_ret, ↓vl_cons, ↓vl_nil, ↓vg_cons, ↓vl0_cons, ↓upk_nil, ↓upk_cons, ↓bv_add, ↓bv_sub, ↓bv_mul, ↓bv_fdiv, ↓bv_mod, ↓bv_shl, ↓bv_shr, ↓bv_and, ↓bv_xor, ↓bv_pow, ↓av_add, ↓av_sub, ↓av_mul, ↓av_shl, ↓av_shr, ↓av_xor, ↓cv_eq, ↓cv_ne, ↓cv_lt, ↓cv_le, ↓cv_gt, ↓cv_ge, ↓cv_str, ↓cv_tup, ↓cv_in, ↓cv_instr, ↓tr_bool, ↓tr_int, ↓uv_neg, ↓uv_not, ↓br_dec, ↓br_tt, ↓br_ff, ↓br_not, ↓sub2_0, ↓sub2_1, ↓sub4_0, ok_name, ok_call, isG_eq, isL_eq, gk_cons, lc_cons, kg, kl, ↓reduceIte, List.all_cons, List.all_nil, List.isEmpty_cons, nstar, nset, nslice, ncall, ncomp, Bool.and_true, Bool.true_and, Bool.not_false, Bool.not_true, and_true, true_and, ne_eq, not_true, not_false_eq_true, List.length_cons, List.length_nil, ite_not, beq_self_eq_true, decide_false, decide_true, Bool.false_eq_true, ↓String.reduceEq, ↓String.reduceNe, Int.reduceLT, Int.reduceLE, Int.reduceGT, Int.reduceGE, Int.reduceEq, Int.reduceNe, Int.reduceNeg, Int.reduceAdd, Int.reduceSub, Int.reduceMul, Int.reduceToNat, Nat.reduceLT, Nat.reduceLeDiff, Nat.reduceAdd, Nat.reduceMul, Nat.reduceEqDiff, hmid, hc]
      split
      · refine ⟨by decide, hok, ?_⟩
        split
        · exact ⟨h - (l + h) / 2, by omega, (l + h) / 2, h, by omega, hhB, by omega, hh, rfl, .inr ⟨_, rfl⟩⟩
        · exact ⟨(l + h) / 2 - l, by omega, l, (l + h) / 2, by omega, by omega, hl, by omega, rfl, .inr ⟨_, rfl⟩⟩
      · rename_i q
        exact hend q
theorem known_lholds (w : World) : Known (KK w) (Str.ofString "_law_holds") := (d_ulaw_holds w).known
/-- the interval holds (m + √n)/d, by squares -/
def Cut (lo hi : Rat) (m d n : Nat) : Prop := (lo * d - m ≤ 0 ∨ (lo * d - m) * (lo * d - m) ≤ n) ∧ 0 ≤ hi * d - m ∧ (n : Rat) ≤ (hi * d - m) * (hi * d - m)
theorem ok_mul {a b : Int} (ha : a.natAbs < 2 ^ 4000) (hb : b.natAbs < 2 ^ 4000) : IntMulOk a b := IntMulOk.of_le (m := 4000) (n := 4000) (intBits_le_iff.mpr ha) (intBits_le_iff.mpr hb) (by decide)
theorem ab_nat {n k : Nat} (h : bl n ≤ k) : ((n : Int)).natAbs < 2 ^ k := by rw [Int.natAbs_natCast]; exact bl_le.mp h
theorem ab_mul {a b : Int} {i j k : Nat} (ha : a.natAbs < 2 ^ i) (hb : b.natAbs < 2 ^ j) (h : i + j ≤ k) : (a * b).natAbs < 2 ^ k := by
  rw [Int.natAbs_mul]
  refine Nat.lt_of_lt_of_le ?_ (Nat.pow_le_pow_right (by decide) h)
  rw [Nat.pow_add]
  exact Nat.mul_lt_mul'' ha hb
theorem ab_sub {a b : Int} {i k : Nat} (ha : a.natAbs < 2 ^ i) (hb : b.natAbs < 2 ^ i) (h : i + 1 ≤ k) : (a - b).natAbs < 2 ^ k := by
  refine Nat.lt_of_lt_of_le ?_ (Nat.pow_le_pow_right (by decide) h)
  rw [Nat.pow_succ]; omega
theorem ab_up {a : Int} {i k : Nat} (ha : a.natAbs < 2 ^ i) (h : i ≤ k) : a.natAbs < 2 ^ k := Nat.lt_of_lt_of_le ha (Nat.pow_le_pow_right (by decide) h)
theorem cut_val {P Q m d : Nat} {v : Rat} (h : (P : Rat) = v * Q) : (((P : Int) * d - m * Q : Int) : Rat) = (v * d - m) * Q := by
  push_cast; rw [h]; grind
theorem lholds_spec (w : World) {p m d n : Nat} {lo hi : Rat} {x : D} (hp : p ≤ 200) (h : PI p lo hi x) (h1 : pw (-1000) ≤ lo) (h2 : lo ≤ pw 1000) (h3 : pw (-1000) ≤ hi) (h4 : hi ≤ pw 1000)
    (bm : bl m ≤ 200) (bd : bl d ≤ 200) (bn : bl n ≤ 200) (C : Cut lo hi m d n) : Spec PP w (KK w) 2 "_law_holds" [x, .int m, .int d, .int n] (· = .bool true) := by
  obtain ⟨a, b, rfl, pa, pb⟩ := h
  have am := ab_nat bm
  have ad := ab_nat bd
  have an := ab_nat bn
  (refine spec_defk (gok _) (d_ulaw_holds w) ?_; (conv => arg 7; whnf); (conv => arg 5; whnf); (conv => arg 8; simp only [List.cons_append, List.nil_append, List.zip_cons_cons, List.zip_nil_left, List.zip_nil_right, List.append_nil]); (conv => arg 6; unfold GT))
  simp only [↓s_nil, ↓s_cons, ↓s_pass, ↓s_brk, ↓s_ret, ↓s_asg, ↓s_tup, ↓s_aug, ↓s_if, ↓s_assert, ↓asg_nil, ↓asg_cons, ↓e_int, ↓e_str, ↓e_bool, ↓e_name, ↓e_bin, ↓e_un, ↓e_bool2, ↓e_if, ↓e_cmp, ↓e_call, ↓e_bits, ↓e_sub, ↓e_tup, ↓t_not, ↓t_bool, ↓t_if, ↓t_cmp, ↓t_name, ↓t_call, ↓t_bin, ↓t_const, ↓t_sub, ↓es_nil, ↓es_cons, ↓b_one, ↓b_and, ↓b_or, ↓a_nil_and, ↓a_nil_or, ↓a_and, ↓a_or, ↓c_one, ↓c_more, ↓d_one, ↓d_more, ↓tupk_tup, ↓intk_int, ↓ksq_next, ↓ksq_ret, ↓ksq_brk, ↓ksq_cont, ↓kdf_ret, ↓kdf_next, ↓klp_next, ↓klp_cont, ↓klp_brk, ↓klp_ret, ↓vl_cons, ↓vl_nil, ↓vg_cons, ↓vl0_cons, ↓upk_nil, ↓upk_cons, ↓bv_add, ↓bv_sub, ↓bv_mul, ↓bv_fdiv, ↓bv_mod, ↓bv_shl, ↓bv_shr, ↓bv_and, ↓bv_xor, ↓bv_pow, ↓av_add, ↓av_sub, ↓av_mul, ↓av_shl, ↓av_shr, ↓av_xor, ↓cv_eq, ↓cv_ne, ↓cv_lt, ↓cv_le, ↓cv_gt, ↓cv_ge, ↓cv_str, ↓cv_tup, ↓cv_in, ↓cv_instr, ↓tr_bool, ↓tr_int, ↓uv_neg, ↓uv_not, ↓br_dec, ↓br_tt, ↓br_ff, ↓br_not, ↓sub2_0, ↓sub2_1, ↓sub4_0, ok_name, ok_call, isG_eq, isL_eq, gk_cons, lc_cons, kg, kl, ↓reduceIte, List.all_cons, List.all_nil, List.isEmpty_cons, nstar, nset, nslice, ncall, ncomp, Bool.and_true, Bool.true_and, Bool.not_false, Bool.not_true, and_true, true_and, ne_eq, not_true, not_false_eq_true, List.length_cons, List.length_nil, ite_not, beq_self_eq_true, decide_false, decide_true, Bool.false_eq_true, ↓String.reduceEq, ↓String.reduceNe, Int.reduceLT, Int.reduceLE, Int.reduceGT, Int.reduceGE, Int.reduceEq, Int.reduceNe, Int.reduceNeg, Int.reduceAdd, Int.reduceSub, Int.reduceMul, Int.reduceToNat, Nat.reduceLT, Nat.reduceLeDiff, Nat.reduceAdd, Nat.reduceMul, Nat.reduceEqDiff]
  refine ⟨known_to_rational w, (to_rational_spec w (X := 1000) pa h1 h2 (by omega)).mono fun y hy => ?_⟩
  obtain ⟨P, Q, hP, hQ, hv, bP, bQ, rfl⟩ := hy
  have aP := ab_nat (k := 1300) (Nat.le_trans bP (by omega))
  have aQ := ab_nat (k := 1300) (Nat.le_trans bQ (by omega))
  have aPd := ab_mul aP ad (k := 1500) (by decide)
  have amQ := ab_mul am aQ (k := 1500) (by decide)
  have at' := ab_sub aPd amQ (k := 1600) (by decide)
  have anQ := ab_mul an aQ (k := 1500) (by decide)
  simp only [↓s_nil, ↓s_cons, ↓s_pass, ↓s_brk, ↓s_ret, ↓s_asg, ↓s_tup, ↓s_aug, ↓s_if, ↓s_assert, ↓asg_nil, ↓asg_cons, ↓e_int, ↓e_str, ↓e_bool, ↓e_name, ↓e_bin, ↓e_un, ↓e_bool2, ↓e_if, ↓e_cmp, ↓e_call, ↓e_bits, ↓e_sub, ↓e_tup, ↓t_not, ↓t_bool, ↓t_if, ↓t_cmp, ↓t_name, ↓t_call, ↓t_bin, ↓t_const, ↓t_sub, ↓es_nil, ↓es_cons, ↓b_one, ↓b_and, ↓b_or, ↓a_nil_and, ↓a_nil_or, ↓a_and, ↓a_or, ↓c_one, ↓c_more, ↓d_one, ↓d_more, ↓tupk_tup, ↓intk_int, ↓ksq_next, ↓ksq_ret, ↓ksq_brk, ↓ksq_cont, ↓kdf_ret, ↓kdf_next, ↓klp_next, ↓klp_cont, ↓klp_brk, ↓klp_ret, ↓vl_cons, ↓vl_nil, ↓vg_cons, ↓vl0_cons, ↓upk_nil, ↓upk_cons, ↓bv_add, ↓bv_sub, ↓bv_mul, ↓bv_fdiv, ↓bv_mod, ↓bv_shl, ↓bv_shr, ↓bv_and, ↓bv_xor, ↓bv_pow, ↓av_add, ↓av_sub, ↓av_mul, ↓av_shl, ↓av_shr, ↓av_xor, ↓cv_eq, ↓cv_ne, ↓cv_lt, ↓cv_le, ↓cv_gt, ↓cv_ge, ↓cv_str, ↓cv_tup, ↓cv_in, ↓cv_instr, ↓tr_bool, ↓tr_int, ↓uv_neg, ↓uv_not, ↓br_dec, ↓br_tt, ↓br_ff, ↓br_not, ↓sub2_0, ↓sub2_1, ↓sub4_0, ok_name, ok_call, isG_eq, isL_eq, gk_cons, lc_cons, kg, kl, ↓reduceIte, List.all_cons, List.all_nil, List.isEmpty_cons, nstar, nset, nslice, ncall, ncomp, Bool.and_true, Bool.true_and, Bool.not_false, Bool.not_true, and_true, true_and, ne_eq, not_true, not_false_eq_true, List.length_cons, List.length_nil, ite_not, beq_self_eq_true, decide_false, decide_true, Bool.false_eq_true, ↓String.reduceEq, ↓String.reduceNe, Int.reduceLT, Int.reduceLE, Int.reduceGT, Int.reduceGE, Int.reduceEq, Int.reduceNe, Int.reduceNeg, Int.reduceAdd, Int.reduceSub, Int.reduceMul, Int.reduceToNat, Nat.reduceLT, Nat.reduceLeDiff, Nat.reduceAdd, Nat.reduceMul, Nat.reduceEqDiff]
  refine ⟨ok_mul (ab_up aP (by decide)) (ab_up ad (by decide)), ok_mul (ab_up am (by decide)) (ab_up aQ (by decide)), ?_⟩
  have rest : Known (KK w) (Str.ofString "to_rational") ∧
                  Spec PP w (KK w) 1 (Str.ofString "to_rational") [b] fun d_1 => ∃ P Q : Nat, d_1 = .tuple [.int P, .int Q] ∧ IntMulOk P d ∧ IntMulOk m Q ∧
                    IntMulOk ((P : Int) * d - m * Q) ((P : Int) * d - m * Q) ∧ IntMulOk n Q ∧ IntMulOk ((n : Int) * Q) Q ∧ 0 ≤ (P : Int) * d - m * Q ∧ (n : Int) * Q * Q ≤ ((P : Int) * d - m * Q) * ((P : Int) * d - m * Q) := by
    refine ⟨known_to_rational w, (to_rational_spec w (X := 1000) pb h3 h4 (by omega)).mono fun y hy => ?_⟩
    obtain ⟨P, Q, hP, hQ, hv, bP, bQ, rfl⟩ := hy
    have aP := ab_nat (k := 1300) (Nat.le_trans bP (by omega))
    have aQ := ab_nat (k := 1300) (Nat.le_trans bQ (by omega))
    have aPd := ab_mul aP ad (k := 1500) (by decide)
    have amQ := ab_mul am aQ (k := 1500) (by decide)
    have at' := ab_sub aPd amQ (k := 1600) (by decide)
    have anQ := ab_mul an aQ (k := 1500) (by decide)
    have cv := cut_val (m := m) (d := d) hv
    have hQ' : (0 : Rat) < Q := Rat.natCast_pos.mpr hQ
    refine ⟨P, Q, rfl, ok_mul (ab_up aP (by decide)) (ab_up ad (by decide)), ok_mul (ab_up am (by decide)) (ab_up aQ (by decide)), ok_mul (ab_up at' (by decide)) (ab_up at' (by decide)), ok_mul (ab_up an (by decide)) (ab_up aQ (by decide)), ok_mul (ab_up anQ (by decide)) (ab_up aQ (by decide)), ?_, ?_⟩
    · have : (0 : Rat) ≤ (((P : Int) * d - m * Q : Int) : Rat) := by rw [cv]; exact Rat.mul_nonneg C.2.1 (Rat.le_of_lt hQ')
      exact_mod_cast this
    · have : (((n : Int) * Q * Q : Int) : Rat) ≤ ((((P : Int) * d - m * Q) * ((P : Int) * d - m * Q) : Int) : Rat) := by
        rw [Rat.intCast_mul ((P : Int) * d - m * Q) ((P : Int) * d - m * Q), cv]
        have := Rat.mul_le_mul_of_nonneg_right C.2.2 (Rat.mul_nonneg (Rat.le_of_lt hQ') (Rat.le_of_lt hQ'))
        push_cast; grind
      exact_mod_cast this
  have cv := cut_val (m := m) (d := d) hv
  have hQ' : (0 : Rat) < Q := Rat.natCast_pos.mpr hQ
  split
  · rename_i ht
    have lo' : ((P : Int) * d - m * Q) * ((P : Int) * d - m * Q) ≤ (n : Int) * Q * Q := by
      have pos : (0 : Rat) < (((P : Int) * d - m * Q : Int) : Rat) := by exact_mod_cast ht
      have : ((((P : Int) * d - m * Q) * ((P : Int) * d - m * Q) : Int) : Rat) ≤ (((n : Int) * Q * Q : Int) : Rat) := by
        rw [Rat.intCast_mul ((P : Int) * d - m * Q) ((P : Int) * d - m * Q), cv]
        rw [cv] at pos
        rcases C.1 with q | q
        · exfalso
          have := Rat.mul_le_mul_of_nonneg_right q (Rat.le_of_lt hQ'); grind
        · have := Rat.mul_le_mul_of_nonneg_right q (Rat.mul_nonneg (Rat.le_of_lt hQ') (Rat.le_of_lt hQ'))
          push_cast; grind
      exact_mod_cast this
    refine ⟨ok_mul (ab_up at' (by decide)) (ab_up at' (by decide)), ok_mul (ab_up an (by decide)) (ab_up aQ (by decide)), ok_mul (ab_up anQ (by decide)) (ab_up aQ (by decide)), ?_⟩
    rw [if_neg (by omega)]
    refine ⟨rest.1, rest.2.mono fun y hy => ?_⟩
    obtain ⟨P', Q', rfl, o1, o2, o3, o4, o5, g1, g2⟩ := hy
    simp only [↓s_nil, ↓s_cons, ↓s_pass, ↓s_brk, ↓s_ret, ↓s_asg, ↓s_tup, ↓s_aug, ↓s_if, ↓s_assert, ↓asg_nil, ↓asg_cons, ↓e_int, ↓e_str, ↓e_bool, ↓e_name, ↓e_bin, ↓e_un, ↓e_bool2, ↓e_if, ↓e_cmp, ↓e_call, ↓e_bits, ↓e_sub, ↓e_tup, ↓t_not, ↓t_bool, ↓t_if, ↓t_cmp, ↓t_name, ↓t_call, ↓t_bin, ↓t_const, ↓t_sub, ↓es_nil, ↓es_cons, ↓b_one, ↓b_and, ↓b_or, ↓a_nil_and, ↓a_nil_or, ↓a_and, ↓a_or, ↓c_one, ↓c_more, ↓d_one, ↓d_more, ↓tupk_tup, ↓intk_int, ↓ksq_next, ↓ksq_ret, ↓ksq_brk, ↓ksq_cont, ↓kdf_ret, ↓kdf_next, ↓klp_next, ↓klp_cont, ↓klp_brk, ↓klp_ret, ↓vl_cons, ↓vl_nil, ↓vg_cons, ↓vl0_cons, ↓upk_nil, ↓upk_cons, ↓bv_add, ↓bv_sub, ↓bv_mul, ↓bv_fdiv, ↓bv_mod, ↓bv_shl, ↓bv_shr, ↓bv_and, ↓bv_xor, ↓bv_pow, ↓av_add, ↓av_sub, ↓av_mul, ↓av_shl, ↓av_shr, ↓av_xor, ↓cv_eq, ↓cv_ne, ↓cv_lt, ↓cv_le, ↓cv_gt, ↓cv_ge, ↓cv_str, ↓cv_tup, ↓cv_in, ↓cv_instr, ↓tr_bool, ↓tr_int, ↓uv_neg, ↓uv_not, ↓br_dec, ↓br_tt, ↓br_ff, ↓br_not, ↓sub2_0, ↓sub2_1, ↓sub4_0, ok_name, ok_call, isG_eq, isL_eq, gk_cons, lc_cons, kg, kl, ↓reduceIte, List.all_cons, List.all_nil, List.isEmpty_cons, nstar, nset, nslice, ncall, ncomp, Bool.and_true, Bool.true_and, Bool.not_false, Bool.not_true, and_true, true_and, ne_eq, not_true, not_false_eq_true, List.length_cons, List.length_nil, ite_not, beq_self_eq_true, decide_false, decide_true, Bool.false_eq_true, ↓String.reduceEq, ↓String.reduceNe, Int.reduceLT, Int.reduceLE, Int.reduceGT, Int.reduceGE, Int.reduceEq, Int.reduceNe, Int.reduceNeg, Int.reduceAdd, Int.reduceSub, Int.reduceMul, Int.reduceToNat, Nat.reduceLT, Nat.reduceLeDiff, Nat.reduceAdd, Nat.reduceMul, Nat.reduceEqDiff, o1, o2, o3, o4, o5, g1, g2]
  · refine ⟨rest.1, rest.2.mono fun y hy => ?_⟩
    obtain ⟨P', Q', rfl, o1, o2, o3, o4, o5, g1, g2⟩ := hy
    simp only [↓s_nil, ↓s_cons, ↓s_pass, ↓s_brk, ↓s_ret, ↓s_asg, ↓s_tup, ↓s_aug, ↓s_if, ↓s_assert, ↓asg_nil, ↓asg_cons, ↓e_int, ↓e_str, ↓e_bool, ↓e_name, ↓e_bin, ↓e_un, ↓e_bool2, ↓e_if, ↓e_cmp, ↓e_call, ↓e_bits, ↓e_sub, ↓e_tup, ↓t_not, ↓t_bool, ↓t_if, ↓t_cmp, ↓t_name, ↓t_call, ↓t_bin, ↓t_const, ↓t_sub, ↓es_nil, ↓es_cons, ↓b_one, ↓b_and, ↓b_or, ↓a_nil_and, ↓a_nil_or, ↓a_and, ↓a_or, ↓c_one, ↓c_more, ↓d_one, ↓d_more, ↓tupk_tup, ↓intk_int, ↓ksq_next, ↓ksq_ret, ↓ksq_brk, ↓ksq_cont, ↓kdf_ret, ↓kdf_next, ↓klp_next, ↓klp_cont, ↓klp_brk, ↓klp_ret, ↓vl_cons, ↓vl_nil, ↓vg_cons, ↓vl0_cons, ↓upk_nil, ↓upk_cons, ↓bv_add, ↓bv_sub, ↓bv_mul, ↓bv_fdiv, ↓bv_mod, ↓bv_shl, ↓bv_shr, ↓bv_and, ↓bv_xor, ↓bv_pow, ↓av_add, ↓av_sub, ↓av_mul, ↓av_shl, ↓av_shr, ↓av_xor, ↓cv_eq, ↓cv_ne, ↓cv_lt, ↓cv_le, ↓cv_gt, ↓cv_ge, ↓cv_str, ↓cv_tup, ↓cv_in, ↓cv_instr, ↓tr_bool, ↓tr_int, ↓uv_neg, ↓uv_not, ↓br_dec, ↓br_tt, ↓br_ff, ↓br_not, ↓sub2_0, ↓sub2_1, ↓sub4_0, ok_name, ok_call, isG_eq, isL_eq, gk_cons, lc_cons, kg, kl, ↓reduceIte, List.all_cons, List.all_nil, List.isEmpty_cons, nstar, nset, nslice, ncall, ncomp, Bool.and_true, Bool.true_and, Bool.not_false, Bool.not_true, and_true, true_and, ne_eq, not_true, not_false_eq_true, List.length_cons, List.length_nil, ite_not, beq_self_eq_true, decide_false, decide_true, Bool.false_eq_true, ↓String.reduceEq, ↓String.reduceNe, Int.reduceLT, Int.reduceLE, Int.reduceGT, Int.reduceGE, Int.reduceEq, Int.reduceNe, Int.reduceNeg, Int.reduceAdd, Int.reduceSub, Int.reduceMul, Int.reduceToNat, Nat.reduceLT, Nat.reduceLeDiff, Nat.reduceAdd, Nat.reduceMul, Nat.reduceEqDiff, o1, o2, o3, o4, o5, g1, g2]
end Mine

end
section
open PySem PySem.W PyProof.Rows PySem.Calls
set_option maxRecDepth 100000
namespace Mine
theorem known_ilt (w : World) : Known (KK w) (Str.ofString "mpi_lt") := (d_mpi_lt w).known
theorem ilt_yes (w : World) {p1 p2 : Nat} {l1 h1 l2 h2 : Rat} {d d' : D} (hq1 : p1 ≤ 2000) (hq2 : p2 ≤ 2000) (h : PI p1 l1 h1 d) (h' : PI p2 l2 h2 d') (s2 : Sz h1) (s3 : Sz l2) (hlt : h1 < l2) :
    Spec PP w (KK w) 10 "mpi_lt" [d, d'] (· = .bool true) := by
  obtain ⟨a, b, rfl, pa, pb⟩ := h
  obtain ⟨a', b', rfl, pa', pb'⟩ := h'
  (refine spec_defk (gok _) (d_mpi_lt w) ?_; (conv => arg 7; whnf); (conv => arg 5; whnf); (conv => arg 8; simp only [List.cons_append, List.nil_append, List.zip_cons_cons, List.zip_nil_left, List.zip_nil_right, List.append_nil]); (conv => arg 6; unfold GT))
  simp only [↓s_nil, ↓s_cons, ↓s_pass, ↓s_brk, ↓s_ret, ↓s_asg, ↓s_tup, ↓s_aug, ↓s_if, ↓s_assert, ↓asg_nil, ↓asg_cons, ↓e_int, ↓e_str, ↓e_bool, ↓e_name, ↓e_bin, ↓e_un, ↓e_bool2, ↓e_if, ↓e_cmp, ↓e_call, ↓e_bits, ↓e_sub, ↓e_tup, ↓t_not, ↓t_bool, ↓t_if, ↓t_cmp, ↓t_name, ↓t_call, ↓t_bin, ↓t_const, ↓t_sub, ↓es_nil, ↓es_cons, ↓b_one, ↓b_and, ↓b_or, ↓a_nil_and, ↓a_nil_or, ↓a_and, ↓a_or, ↓c_one, ↓c_more, ↓d_one, ↓d_more, ↓tupk_tup, ↓intk_int, ↓ksq_next, ↓ksq_ret, ↓ksq_brk, ↓ksq_cont, ↓kdf_ret, ↓kdf_next, ↓klp_next, ↓klp_cont, ↓klp_brk, ↓klp_ret, ↓vl_cons, ↓vl_nil, ↓vg_cons, ↓vl0_cons, ↓upk_nil, ↓upk_cons, ↓bv_add, ↓bv_sub, ↓bv_mul, ↓bv_fdiv, ↓bv_mod, ↓bv_shl, ↓bv_shr, ↓bv_and, ↓bv_xor, ↓bv_pow, ↓av_add, ↓av_sub, ↓av_mul, ↓av_shl, ↓av_shr, ↓av_xor, ↓cv_eq, ↓cv_ne, ↓cv_lt, ↓cv_le, ↓cv_gt, ↓cv_ge, ↓cv_str, ↓cv_tup, ↓cv_in, ↓cv_instr, ↓tr_bool, ↓tr_int, ↓uv_neg, ↓uv_not, ↓br_dec, ↓br_tt, ↓br_ff, ↓br_not, ↓sub2_0, ↓sub2_1, ↓sub4_0, ok_name, ok_call, isG_eq, isL_eq, gk_cons, lc_cons, kg, kl, ↓reduceIte, List.all_cons, List.all_nil, List.isEmpty_cons, nstar, nset, nslice, ncall, ncomp, Bool.and_true, Bool.true_and, Bool.not_false, Bool.not_true, and_true, true_and, ne_eq, not_true, not_false_eq_true, List.length_cons, List.length_nil, ite_not, beq_self_eq_true, decide_false, decide_true, Bool.false_eq_true, ↓String.reduceEq, ↓String.reduceNe, Int.reduceLT, Int.reduceLE, Int.reduceGT, Int.reduceGE, Int.reduceEq, Int.reduceNe, Int.reduceNeg, Int.reduceAdd, Int.reduceSub, Int.reduceMul, Int.reduceToNat, Nat.reduceLT, Nat.reduceLeDiff, Nat.reduceAdd, Nat.reduceMul, Nat.reduceEqDiff]
  refine ⟨known_lt w, (lt_spec w hq1 hq2 pb pa' s2 s3).mono fun x hx => ?_⟩
  subst hx
  simp only [↓s_nil, ↓s_cons, ↓s_pass, ↓s_brk, ↓s_ret, ↓s_asg, ↓s_tup, ↓s_aug, ↓s_if, ↓s_assert, ↓asg_nil, ↓asg_cons, ↓e_int, ↓e_str, ↓e_bool, ↓e_name, ↓e_bin, ↓e_un, ↓e_bool2, ↓e_if, ↓e_cmp, ↓e_call, ↓e_bits, ↓e_sub, ↓e_tup, ↓t_not, ↓t_bool, ↓t_if, ↓t_cmp, ↓t_name, ↓t_call, ↓t_bin, ↓t_const, ↓t_sub, ↓es_nil, ↓es_cons, ↓b_one, ↓b_and, ↓b_or, ↓a_nil_and, ↓a_nil_or, ↓a_and, ↓a_or, ↓c_one, ↓c_more, ↓d_one, ↓d_more, ↓tupk_tup, ↓intk_int, ↓ksq_next, ↓ksq_ret, ↓ksq_brk, ↓ksq_cont, ↓kdf_ret, ↓kdf_next, ↓klp_next, ↓klp_cont, ↓klp_brk, ↓klp_ret, ↓vl_cons, ↓vl_nil, ↓vg_cons, ↓vl0_cons, ↓upk_nil, ↓upk_cons, ↓bv_add, ↓bv_sub, ↓bv_mul, ↓bv_fdiv, ↓bv_mod, ↓bv_shl, ↓bv_shr, ↓bv_and, ↓bv_xor, ↓bv_pow, ↓av_add, ↓av_sub, ↓av_mul, ↓av_shl, ↓av_shr, ↓av_xor, ↓cv_eq, ↓cv_ne, ↓cv_lt, ↓cv_le, ↓cv_gt, ↓cv_ge, ↓cv_str, ↓cv_tup, ↓cv_in, ↓cv_instr, ↓tr_bool, ↓tr_int, ↓uv_neg, ↓uv_not, ↓br_dec, ↓br_tt, ↓br_ff, ↓br_not, ↓sub2_0, ↓sub2_1, ↓sub4_0, ok_name, ok_call, isG_eq, isL_eq, gk_cons, lc_cons, kg, kl, ↓reduceIte, List.all_cons, List.all_nil, List.isEmpty_cons, nstar, nset, nslice, ncall, ncomp, Bool.and_true, Bool.true_and, Bool.not_false, Bool.not_true, and_true, true_and, ne_eq, not_true, not_false_eq_true, List.length_cons, List.length_nil, ite_not, beq_self_eq_true, decide_false, decide_true, Bool.false_eq_true, ↓String.reduceEq, ↓String.reduceNe, Int.reduceLT, Int.reduceLE, Int.reduceGT, Int.reduceGE, Int.reduceEq, Int.reduceNe, Int.reduceNeg, Int.reduceAdd, Int.reduceSub, Int.reduceMul, Int.reduceToNat, Nat.reduceLT, Nat.reduceLeDiff, Nat.reduceAdd, Nat.reduceMul, Nat.reduceEqDiff, hlt, if_true]
theorem ilt_no (w : World) {p1 p2 : Nat} {l1 h1 l2 h2 : Rat} {d d' : D} (hq1 : p1 ≤ 2000) (hq2 : p2 ≤ 2000) (h : PI p1 l1 h1 d) (h' : PI p2 l2 h2 d') (s1 : Sz l1) (s2 : Sz h1) (s3 : Sz l2) (s4 : Sz h2) (hlt : ¬ h1 < l2) (hge : h2 ≤ l1) :
    Spec PP w (KK w) 10 "mpi_lt" [d, d'] (· = .bool false) := by
  obtain ⟨a, b, rfl, pa, pb⟩ := h
  obtain ⟨a', b', rfl, pa', pb'⟩ := h'
  (refine spec_defk (gok _) (d_mpi_lt w) ?_; (conv => arg 7; whnf); (conv => arg 5; whnf); (conv => arg 8; simp only [List.cons_append, List.nil_append, List.zip_cons_cons, List.zip_nil_left, List.zip_nil_right, List.append_nil]); (conv => arg 6; unfold GT))
  simp only [↓s_nil, ↓s_cons, ↓s_pass, ↓s_brk, ↓s_ret, ↓s_asg, ↓s_tup, ↓s_aug, ↓s_if, ↓s_assert, ↓asg_nil, ↓asg_cons, ↓e_int, ↓e_str, ↓e_bool, ↓e_name, ↓e_bin, ↓e_un, ↓e_bool2, ↓e_if, ↓e_cmp, ↓e_call, ↓e_bits, ↓e_sub, ↓e_tup, ↓t_not, ↓t_bool, ↓t_if, ↓t_cmp, ↓t_name, ↓t_call, ↓t_bin, ↓t_const, ↓t_sub, ↓es_nil, ↓es_cons, ↓b_one, ↓b_and, ↓b_or, ↓a_nil_and, ↓a_nil_or, ↓a_and, ↓a_or, ↓c_one, ↓c_more, ↓d_one, ↓d_more, ↓tupk_tup, ↓intk_int, ↓ksq_next, ↓ksq_ret, ↓ksq_brk, ↓ksq_cont, ↓kdf_ret, ↓kdf_next, ↓klp_next, ↓klp_cont, ↓klp_brk, ↓klp_ret, ↓vl_cons, ↓vl_nil, ↓vg_cons, ↓vl0_cons, ↓upk_nil, ↓upk_cons, ↓bv_add, ↓bv_sub, ↓bv_mul, ↓bv_fdiv, ↓bv_mod, ↓bv_shl, ↓bv_shr, ↓bv_and, ↓bv_xor, ↓bv_pow, ↓av_add, ↓av_sub, ↓av_mul, ↓av_shl, ↓av_shr, ↓av_xor, ↓cv_eq, ↓cv_ne, ↓cv_lt, ↓cv_le, ↓cv_gt, ↓cv_ge, ↓cv_str, ↓cv_tup, ↓cv_in, ↓cv_instr, ↓tr_bool, ↓tr_int, ↓uv_neg, ↓uv_not, ↓br_dec, ↓br_tt, ↓br_ff, ↓br_not, ↓sub2_0, ↓sub2_1, ↓sub4_0, ok_name, ok_call, isG_eq, isL_eq, gk_cons, lc_cons, kg, kl, ↓reduceIte, List.all_cons, List.all_nil, List.isEmpty_cons, nstar, nset, nslice, ncall, ncomp, Bool.and_true, Bool.true_and, Bool.not_false, Bool.not_true, and_true, true_and, ne_eq, not_true, not_false_eq_true, List.length_cons, List.length_nil, ite_not, beq_self_eq_true, decide_false, decide_true, Bool.false_eq_true, ↓String.reduceEq, ↓String.reduceNe, Int.reduceLT, Int.reduceLE, Int.reduceGT, Int.reduceGE, Int.reduceEq, Int.reduceNe, Int.reduceNeg, Int.reduceAdd, Int.reduceSub, Int.reduceMul, Int.reduceToNat, Nat.reduceLT, Nat.reduceLeDiff, Nat.reduceAdd, Nat.reduceMul, Nat.reduceEqDiff]
  refine ⟨known_lt w, (lt_spec w hq1 hq2 pb pa' s2 s3).mono fun x hx => ?_⟩
  subst hx
  simp only [↓s_nil, ↓s_cons, ↓s_pass, ↓s_brk, ↓s_ret, ↓s_asg, ↓s_tup, ↓s_aug, ↓s_if, ↓s_assert, ↓asg_nil, ↓asg_cons, ↓e_int, ↓e_str, ↓e_bool, ↓e_name, ↓e_bin, ↓e_un, ↓e_bool2, ↓e_if, ↓e_cmp, ↓e_call, ↓e_bits, ↓e_sub, ↓e_tup, ↓t_not, ↓t_bool, ↓t_if, ↓t_cmp, ↓t_name, ↓t_call, ↓t_bin, ↓t_const, ↓t_sub, ↓es_nil, ↓es_cons, ↓b_one, ↓b_and, ↓b_or, ↓a_nil_and, ↓a_nil_or, ↓a_and, ↓a_or, ↓c_one, ↓c_more, ↓d_one, ↓d_more, ↓tupk_tup, ↓intk_int, ↓ksq_next, ↓ksq_ret, ↓ksq_brk, ↓ksq_cont, ↓kdf_ret, ↓kdf_next, ↓klp_next, ↓klp_cont, ↓klp_brk, ↓klp_ret, ↓vl_cons, ↓vl_nil, ↓vg_cons, ↓vl0_cons, ↓upk_nil, ↓upk_cons, ↓bv_add, ↓bv_sub, ↓bv_mul, ↓bv_fdiv, ↓bv_mod, ↓bv_shl, ↓bv_shr, ↓bv_and, ↓bv_xor, ↓bv_pow, ↓av_add, ↓av_sub, ↓av_mul, ↓av_shl, ↓av_shr, ↓av_xor, ↓cv_eq, ↓cv_ne, ↓cv_lt, ↓cv_le, ↓cv_gt, ↓cv_ge, ↓cv_str, ↓cv_tup, ↓cv_in, ↓cv_instr, ↓tr_bool, ↓tr_int, ↓uv_neg, ↓uv_not, ↓br_dec, ↓br_tt, ↓br_ff, ↓br_not, ↓sub2_0, ↓sub2_1, ↓sub4_0, ok_name, ok_call, isG_eq, isL_eq, gk_cons, lc_cons, kg, kl, ↓reduceIte, List.all_cons, List.all_nil, List.isEmpty_cons, nstar, nset, nslice, ncall, ncomp, Bool.and_true, Bool.true_and, Bool.not_false, Bool.not_true, and_true, true_and, ne_eq, not_true, not_false_eq_true, List.length_cons, List.length_nil, ite_not, beq_self_eq_true, decide_false, decide_true, Bool.false_eq_true, ↓String.reduceEq, ↓String.reduceNe, Int.reduceLT, Int.reduceLE, Int.reduceGT, Int.reduceGE, Int.reduceEq, Int.reduceNe, Int.reduceNeg, Int.reduceAdd, Int.reduceSub, Int.reduceMul, Int.reduceToNat, Nat.reduceLT, Nat.reduceLeDiff, Nat.reduceAdd, Nat.reduceMul, Nat.reduceEqDiff, hlt, if_false]
  refine ⟨known_ge w, (ge_spec w hq1 hq2 pa pb' s1 s4).mono fun x hx => ?_⟩
  subst hx
  simp only [↓s_nil, ↓s_cons, ↓s_pass, ↓s_brk, ↓s_ret, ↓s_asg, ↓s_tup, ↓s_aug, ↓s_if, ↓s_assert, ↓asg_nil, ↓asg_cons, ↓e_int, ↓e_str, ↓e_bool, ↓e_name, ↓e_bin, ↓e_un, ↓e_bool2, ↓e_if, ↓e_cmp, ↓e_call, ↓e_bits, ↓e_sub, ↓e_tup, ↓t_not, ↓t_bool, ↓t_if, ↓t_cmp, ↓t_name, ↓t_call, ↓t_bin, ↓t_const, ↓t_sub, ↓es_nil, ↓es_cons, ↓b_one, ↓b_and, ↓b_or, ↓a_nil_and, ↓a_nil_or, ↓a_and, ↓a_or, ↓c_one, ↓c_more, ↓d_one, ↓d_more, ↓tupk_tup, ↓intk_int, ↓ksq_next, ↓ksq_ret, ↓ksq_brk, ↓ksq_cont, ↓kdf_ret, ↓kdf_next, ↓klp_next, ↓klp_cont, ↓klp_brk, ↓klp_ret, ↓vl_cons, ↓vl_nil, ↓vg_cons, ↓vl0_cons, ↓upk_nil, ↓upk_cons, ↓bv_add, ↓bv_sub, ↓bv_mul, ↓bv_fdiv, ↓bv_mod, ↓bv_shl, ↓bv_shr, ↓bv_and, ↓bv_xor, ↓bv_pow, ↓av_add, ↓av_sub, ↓av_mul, ↓av_shl, ↓av_shr, ↓av_xor, ↓cv_eq, ↓cv_ne, ↓cv_lt, ↓cv_le, ↓cv_gt, ↓cv_ge, ↓cv_str, ↓cv_tup, ↓cv_in, ↓cv_instr, ↓tr_bool, ↓tr_int, ↓uv_neg, ↓uv_not, ↓br_dec, ↓br_tt, ↓br_ff, ↓br_not, ↓sub2_0, ↓sub2_1, ↓sub4_0, ok_name, ok_call, isG_eq, isL_eq, gk_cons, lc_cons, kg, kl, ↓reduceIte, List.all_cons, List.all_nil, List.isEmpty_cons, nstar, nset, nslice, ncall, ncomp, Bool.and_true, Bool.true_and, Bool.not_false, Bool.not_true, and_true, true_and, ne_eq, not_true, not_false_eq_true, List.length_cons, List.length_nil, ite_not, beq_self_eq_true, decide_false, decide_true, Bool.false_eq_true, ↓String.reduceEq, ↓String.reduceNe, Int.reduceLT, Int.reduceLE, Int.reduceGT, Int.reduceGE, Int.reduceEq, Int.reduceNe, Int.reduceNeg, Int.reduceAdd, Int.reduceSub, Int.reduceMul, Int.reduceToNat, Nat.reduceLT, Nat.reduceLeDiff, Nat.reduceAdd, Nat.reduceMul, Nat.reduceEqDiff, hge, if_true]
theorem ld_ValueError (w : World) : LoadsTo (KK w) (Str.ofString "ValueError") (.type "ValueError") := .inr ⟨rfl, by decide, by decide +kernel⟩
theorem ilt_raise (w : World) {A : Around} {s : Shared} {vs : List Value} {l : List Env} {Q : Value → Shared → Prop} {E : Value → Shared → Prop} {p1 p2 : Nat} {l1 h1 l2 h2 : Rat} {d d' : D}
    (hst : A.frames = some l) (f : FF l s.heap) (R : Rm 11 A) (g : Gd (KK w) s.heap) (r : RVs s.heap vs [d, d'])
    (hq1 : p1 ≤ 2000) (hq2 : p2 ≤ 2000) (h : PI p1 l1 h1 d) (h' : PI p2 l2 h2 d') (s1 : Sz l1) (s2 : Sz h1) (s3 : Sz l2) (s4 : Sz h2) (hlt : ¬ h1 < l2) (hge : ¬ h2 ≤ l1)
    (hE : ∀ e s', Fly l e (.type "ValueError") s s' → E (.ref e) s') : wpAny (model PP w) A (call (.ref 239) vs) Q E s := by
  obtain ⟨a, b, rfl, pa, pb⟩ := h
  obtain ⟨a', b', rfl, pa', pb'⟩ := h'
  refine call_gen (d_mpi_lt w) rfl R g r fun s₁ L nm cd I x hL R' => ?_
  rw [← List.take_append_drop 4 (fbody _ _)]
  refine wps_then (gok w) (List.take 4 (fbody _ _)) _ (fun o => ∃ ρ, o = .next ρ) ?_ _ _ _ _ _ _ _ _ _ _ R' I fun fl s₂ o ho hf lk => ?_
  · (conv => arg 7; arg 2; whnf)
    simp only [List.take_succ_cons, List.take_zero]
    (conv => arg 5; whnf); (conv => arg 8; simp only [List.cons_append, List.nil_append, List.zip_cons_cons, List.zip_nil_left, List.zip_nil_right, List.append_nil]); (conv => arg 6; unfold GT)
    simp only [↓s_nil, ↓s_cons, ↓s_pass, ↓s_brk, ↓s_ret, ↓s_asg, ↓s_tup, ↓s_aug, ↓s_if, ↓s_assert, ↓asg_nil, ↓asg_cons, ↓e_int, ↓e_str, ↓e_bool, ↓e_name, ↓e_bin, ↓e_un, ↓e_bool2, ↓e_if, ↓e_cmp, ↓e_call, ↓e_bits, ↓e_sub, ↓e_tup, ↓t_not, ↓t_bool, ↓t_if, ↓t_cmp, ↓t_name, ↓t_call, ↓t_bin, ↓t_const, ↓t_sub, ↓es_nil, ↓es_cons, ↓b_one, ↓b_and, ↓b_or, ↓a_nil_and, ↓a_nil_or, ↓a_and, ↓a_or, ↓c_one, ↓c_more, ↓d_one, ↓d_more, ↓tupk_tup, ↓intk_int, ↓ksq_next, ↓ksq_ret, ↓ksq_brk, ↓ksq_cont, ↓kdf_ret, ↓kdf_next, ↓klp_next, ↓klp_cont, ↓klp_brk, ↓klp_ret, ↓vl_cons, ↓vl_nil, ↓vg_cons, ↓vl0_cons, ↓upk_nil, ↓upk_cons, ↓bv_add, ↓bv_sub, ↓bv_mul, ↓bv_fdiv, ↓bv_mod, ↓bv_shl, ↓bv_shr, ↓bv_and, ↓bv_xor, ↓bv_pow, ↓av_add, ↓av_sub, ↓av_mul, ↓av_shl, ↓av_shr, ↓av_xor, ↓cv_eq, ↓cv_ne, ↓cv_lt, ↓cv_le, ↓cv_gt, ↓cv_ge, ↓cv_str, ↓cv_tup, ↓cv_in, ↓cv_instr, ↓tr_bool, ↓tr_int, ↓uv_neg, ↓uv_not, ↓br_dec, ↓br_tt, ↓br_ff, ↓br_not, ↓sub2_0, ↓sub2_1, ↓sub4_0, ok_name, ok_call, isG_eq, isL_eq, gk_cons, lc_cons, kg, kl, ↓reduceIte, List.all_cons, List.all_nil, List.isEmpty_cons, nstar, nset, nslice, ncall, ncomp, Bool.and_true, Bool.true_and, Bool.not_false, Bool.not_true, and_true, true_and, ne_eq, not_true, not_false_eq_true, List.length_cons, List.length_nil, ite_not, beq_self_eq_true, decide_false, decide_true, Bool.false_eq_true, ↓String.reduceEq, ↓String.reduceNe, Int.reduceLT, Int.reduceLE, Int.reduceGT, Int.reduceGE, Int.reduceEq, Int.reduceNe, Int.reduceNeg, Int.reduceAdd, Int.reduceSub, Int.reduceMul, Int.reduceToNat, Nat.reduceLT, Nat.reduceLeDiff, Nat.reduceAdd, Nat.reduceMul, Nat.reduceEqDiff]
    refine ⟨known_lt w, (lt_spec w hq1 hq2 pb pa' s2 s3).mono fun x hx => ?_⟩
    subst hx
    simp only [↓s_nil, ↓s_cons, ↓s_pass, ↓s_brk, ↓s_ret, ↓s_asg, ↓s_tup, ↓s_aug, ↓s_if, ↓s_assert, ↓asg_nil, ↓asg_cons, ↓e_int, ↓e_str, ↓e_bool, ↓e_name, ↓e_bin, ↓e_un, ↓e_bool2, ↓e_if, ↓e_cmp, ↓e_call, ↓e_bits, ↓e_sub, ↓e_tup, ↓t_not, ↓t_bool, ↓t_if, ↓t_cmp, ↓t_name, ↓t_call, ↓t_bin, ↓t_const, ↓t_sub, ↓es_nil, ↓es_cons, ↓b_one, ↓b_and, ↓b_or, ↓a_nil_and, ↓a_nil_or, ↓a_and, ↓a_or, ↓c_one, ↓c_more, ↓d_one, ↓d_more, ↓tupk_tup, ↓intk_int, ↓ksq_next, ↓ksq_ret, ↓ksq_brk, ↓ksq_cont, ↓kdf_ret, ↓kdf_next, ↓klp_next, ↓klp_cont, ↓klp_brk, ↓klp_ret, ↓vl_cons, ↓vl_nil, ↓vg_cons, ↓vl0_cons, ↓upk_nil, ↓upk_cons, ↓bv_add, ↓bv_sub, ↓bv_mul, ↓bv_fdiv, ↓bv_mod, ↓bv_shl, ↓bv_shr, ↓bv_and, ↓bv_xor, ↓bv_pow, ↓av_add, ↓av_sub, ↓av_mul, ↓av_shl, ↓av_shr, ↓av_xor, ↓cv_eq, ↓cv_ne, ↓cv_lt, ↓cv_le, ↓cv_gt, ↓cv_ge, ↓cv_str, ↓cv_tup, ↓cv_in, ↓cv_instr, ↓tr_bool, ↓tr_int, ↓uv_neg, ↓uv_not, ↓br_dec, ↓br_tt, ↓br_ff, ↓br_not, ↓sub2_0, ↓sub2_1, ↓sub4_0, ok_name, ok_call, isG_eq, isL_eq, gk_cons, lc_cons, kg, kl, ↓reduceIte, List.all_cons, List.all_nil, List.isEmpty_cons, nstar, nset, nslice, ncall, ncomp, Bool.and_true, Bool.true_and, Bool.not_false, Bool.not_true, and_true, true_and, ne_eq, not_true, not_false_eq_true, List.length_cons, List.length_nil, ite_not, beq_self_eq_true, decide_false, decide_true, Bool.false_eq_true, ↓String.reduceEq, ↓String.reduceNe, Int.reduceLT, Int.reduceLE, Int.reduceGT, Int.reduceGE, Int.reduceEq, Int.reduceNe, Int.reduceNeg, Int.reduceAdd, Int.reduceSub, Int.reduceMul, Int.reduceToNat, Nat.reduceLT, Nat.reduceLeDiff, Nat.reduceAdd, Nat.reduceMul, Nat.reduceEqDiff, hlt, if_false]
    refine ⟨known_ge w, (ge_spec w hq1 hq2 pa pb' s1 s4).mono fun x hx => ?_⟩
    subst hx
    simp only [↓s_nil, ↓s_cons, ↓s_pass, ↓s_brk, ↓s_ret, ↓s_asg, ↓s_tup, ↓s_aug, ↓s_if, ↓s_assert, ↓asg_nil, ↓asg_cons, ↓e_int, ↓e_str, ↓e_bool, ↓e_name, ↓e_bin, ↓e_un, ↓e_bool2, ↓e_if, ↓e_cmp, ↓e_call, ↓e_bits, ↓e_sub, ↓e_tup, ↓t_not, ↓t_bool, ↓t_if, ↓t_cmp, ↓t_name, ↓t_call, ↓t_bin, ↓t_const, ↓t_sub, ↓es_nil, ↓es_cons, ↓b_one, ↓b_and, ↓b_or, ↓a_nil_and, ↓a_nil_or, ↓a_and, ↓a_or, ↓c_one, ↓c_more, ↓d_one, ↓d_more, ↓tupk_tup, ↓intk_int, ↓ksq_next, ↓ksq_ret, ↓ksq_brk, ↓ksq_cont, ↓kdf_ret, ↓kdf_next, ↓klp_next, ↓klp_cont, ↓klp_brk, ↓klp_ret, ↓vl_cons, ↓vl_nil, ↓vg_cons, ↓vl0_cons, ↓upk_nil, ↓upk_cons, ↓bv_add, ↓bv_sub, ↓bv_mul, ↓bv_fdiv, ↓bv_mod, ↓bv_shl, ↓bv_shr, ↓bv_and, ↓bv_xor, ↓bv_pow, ↓av_add, ↓av_sub, ↓av_mul, ↓av_shl, ↓av_shr, ↓av_xor, ↓cv_eq, ↓cv_ne, ↓cv_lt, ↓cv_le, ↓cv_gt, ↓cv_ge, ↓cv_str, ↓cv_tup, ↓cv_in, ↓cv_instr, ↓tr_bool, ↓tr_int, ↓uv_neg, ↓uv_not, ↓br_dec, ↓br_tt, ↓br_ff, ↓br_not, ↓sub2_0, ↓sub2_1, ↓sub4_0, ok_name, ok_call, isG_eq, isL_eq, gk_cons, lc_cons, kg, kl, ↓reduceIte, List.all_cons, List.all_nil, List.isEmpty_cons, nstar, nset, nslice, ncall, ncomp, Bool.and_true, Bool.true_and, Bool.not_false, Bool.not_true, and_true, true_and, ne_eq, not_true, not_false_eq_true, List.length_cons, List.length_nil, ite_not, beq_self_eq_true, decide_false, decide_true, Bool.false_eq_true, ↓String.reduceEq, ↓String.reduceNe, Int.reduceLT, Int.reduceLE, Int.reduceGT, Int.reduceGE, Int.reduceEq, Int.reduceNe, Int.reduceNeg, Int.reduceAdd, Int.reduceSub, Int.reduceMul, Int.reduceToNat, Nat.reduceLT, Nat.reduceLeDiff, Nat.reduceAdd, Nat.reduceMul, Nat.reduceEqDiff, hge, if_false]
    exact ⟨_, rfl⟩
  · obtain ⟨ρ, rfl⟩ := ho
    cases fl <;> first | exact (hf : False).elim | skip
    show wpAny _ _ (execs (List.drop 4 (fbody (KK w) 239)) _) _ _ _
    (conv => arg 3; arg 1; arg 2; whnf)
    simp only [List.drop_succ_cons, List.drop_zero]
    refine wpAny_execs_cons (Raise_classB R'.hh excClass_ValueError PySem.F.self_ValueError (load_global hf.here (ld_ValueError w) hf.kind rfl ⟨rfl, rfl⟩) fun h' e hn => ?_)
    obtain ⟨m, F, _⟩ := hf.fr
    refine leave_type hst f hn F hf.kind fun h'' a0 fl up => hE _ _ ⟨⟨?_, fl.1, up⟩, a0, fl⟩
    obtain ⟨h1, t1, rfl⟩ := x.1
    obtain ⟨⟨h2, t2, rfl⟩, _⟩ := lk
    exact ⟨_, _, rfl⟩
end Mine

end
section
open PySem PySem.W PyProof.Rows PySem.Calls
set_option maxRecDepth 100000
namespace Mine
section
variable {prog : Program} {w : World} {K : Frag} {n : Nat} {sc : Scope} {G : Ev}
variable {A : Around} {s : Shared} {h₀ : Heap} {L fa : Addr} {nm : Str} {cd : Value} {ρ : Ev}
/-- a call in the text that is walked by hand -/
theorem eval_call {Q : Value → Shared → Prop} {E : Value → Shared → Prop} (hG : GOk K G) {f : Str} {np pos : PySem.Pos} {args : List PySem.Expr} {k : List D → Prop} {fv : Value} (h1 : args.all nstar = true) (h2 : args.isEmpty = false) (h3 : isG sc f = true) (lf : LoadsTo K f fv) (c : Callable K fv)
    (h : wpes prog w K n sc G args ρ k) (R : Rm n A) (I : Inn K h₀ L sc ρ s)
    (hc : ∀ s₁ vs ds, k ds → Ext s s₁ → Inn K h₀ L sc ρ s₁ → RVs s₁.heap vs ds → wpAny (model prog w) A (call fv vs) Q E s₁) :
    wpAny (model prog w) A (eval (.Call (.Name f np) args [] pos) (envOf nm sc L fa cd)) Q E s := by
  refine Call_ (load_global I.here lf I.kind h3 ?_)
  refine callWith_plain c h2 h1 ?_
  refine wpAny_mono (wpes_sound hG args ρ k h1 h A s h₀ L nm fa cd pos (fun vs s₁ => ∃ ds, k ds ∧ RVs s₁.heap vs ds ∧ Ext s s₁) R I fun vs s₁ ds a b c => ⟨ds, a, b, c⟩) (fun vs s₁ x => ?_) fun _ _ x => x.elim
  obtain ⟨ds, hk, rv, ex⟩ := x
  exact ⟨(I.ext ex).here.x, hc s₁ vs ds hk ex (I.ext ex) rv⟩
theorem isTrue_call {Q : Bool → Shared → Prop} {E : Value → Shared → Prop} {f : PySem.Expr} {as : List PySem.Expr} {ks : List Keyword} {pos : PySem.Pos} {env : Env}
    (h : wpAny (model prog w) A (eval (.Call f as ks pos) env) (fun v s₁ => ∃ b, v = .bool b ∧ Q b s₁) E s) : wpAny (model prog w) A (isTrue (.Call f as ks pos) env (eval (.Call f as ks pos) env)) Q E s := by
  show wpAny _ _ (do let v ← eval (.Call f as ks pos) env; standAt (PySem.Expr.Call f as ks pos).pos; holding [v] (truthy v)) _ _ _
  refine wpAny_bind (wpAny_mono h (fun v s₁ x => ?_) fun _ _ x => x)
  obtain ⟨b, rfl, hq⟩ := x
  exact wpAny_bind (wpAny_standAt (wpAny_holding (wpAny_truthy_bool hq)))
end
def BEnv (dc df : D) (num den n : Nat) (want : String) (ρ : Ev) : Prop := ∃ la lb ha hb fa fb ga gb : Int, ρ = ([(Str.ofString "close", dc), (Str.ofString "first", df), (Str.ofString "num", .int num), (Str.ofString "den", .int den), (Str.ofString "n", .int n),
  (Str.ofString "la", .int la), (Str.ofString "lb", .int lb), (Str.ofString "ha", .int ha), (Str.ofString "hb", .int hb), (Str.ofString "fa", .int fa), (Str.ofString "fb", .int fb), (Str.ofString "ga", .int ga), (Str.ofString "gb", .int gb), (Str.ofString "want", .str (Str.ofString want))] : Ev)
theorem frac_lt {P Q P' Q' : Nat} {v u : Rat} (h : (P : Rat) = v * Q) (h' : (P' : Rat) = u * Q') (hQ : 0 < Q) (hQ' : 0 < Q') : ((P : Int) * Q' < (P' : Int) * Q) = (v < u) := by
  have q : (0 : Rat) < (Q : Rat) * Q' := Rat.mul_pos (Rat.natCast_pos.mpr hQ) (Rat.natCast_pos.mpr hQ')
  have e1 : (((P : Int) * Q' : Int) : Rat) = v * (Q * Q') := by push_cast; rw [h]; grind
  have e2 : (((P' : Int) * Q : Int) : Rat) = u * (Q * Q') := by push_cast; rw [h']; grind
  refine propext ⟨fun x => ?_, fun x => ?_⟩
  · have : (((P : Int) * Q' : Int) : Rat) < (((P' : Int) * Q : Int) : Rat) := by exact_mod_cast x
    rw [e1, e2] at this
    exact (mul_lt_cancel q).mp this
  · have : v * (Q * Q') < u * (Q * Q') := (mul_lt_cancel q).mpr x
    rw [← e1, ← e2] at this
    exact_mod_cast this
theorem frac_le {P Q P' Q' : Nat} {v u : Rat} (h : (P : Rat) = v * Q) (h' : (P' : Rat) = u * Q') (hQ : 0 < Q) (hQ' : 0 < Q') : ((P : Int) * Q' ≤ (P' : Int) * Q) = (v ≤ u) := by
  have := frac_lt h' h hQ' hQ
  refine propext ⟨fun x => ?_, fun x => ?_⟩
  · have n : ¬ u < v := by rw [← this]; omega
    grind
  · have n : ¬ ((P' : Int) * Q < (P : Int) * Q') := by rw [this]; grind
    omega
def Wants (cl ch fl fh : Rat) (num den n : Nat) (want : String) : Prop :=
  (ch < fl ∧ num * num < n * den * den ∧ want = "below") ∨ (¬ ch < fl ∧ fh ≤ cl ∧ ¬ num * num < n * den * den ∧ want = "not below") ∨ (¬ ch < fl ∧ ¬ fh ≤ cl ∧ want = "refused")
theorem beside_head (w : World) {p num den n : Nat} {cl ch fl fh : Rat} {dc df : D} {want : String} (hp : p ≤ 200) (hc : PI p cl ch dc) (hf : PI p fl fh df)
   (a1 : pw (-1000) ≤ cl) (a2 : cl ≤ pw 1000) (a3 : pw (-1000) ≤ ch) (a4 : ch ≤ pw 1000) (a5 : pw (-1000) ≤ fl) (a6 : fl ≤ pw 1000) (a7 : pw (-1000) ≤ fh) (a8 : fh ≤ pw 1000)
   (c1 : cl * den ≤ num) (c2 : (num : Rat) ≤ ch * den) (bn : bl num ≤ 1000) (bd : bl den ≤ 1000) (bnn : bl n ≤ 200) (hw : Wants cl ch fl fh num den n want) :
   wps PP w (KK w) 12 (fscope (KK w) 305) GT (List.take 7 (fbody (KK w) 305)) ([Str.ofString "close", Str.ofString "first", Str.ofString "num", Str.ofString "den", Str.ofString "n"].zip ([dc, df, .int num, .int den, .int n] ++ [])) (fun o => ∃ ρ, o = .next ρ ∧ BEnv dc df num den n want ρ) := by
  obtain ⟨a, b, rfl, pa, pb⟩ := hc
  obtain ⟨a', b', rfl, pa', pb'⟩ := hf
  have an := ab_nat bn
  have ad := ab_nat bd
  have ann := ab_nat bnn
  have and1 := ab_mul ann ad (k := 1200) (by decide)
  (conv => arg 7; arg 2; whnf)
  simp only [List.take_succ_cons, List.take_zero]
  (conv => arg 5; whnf); (conv => arg 8; simp only [List.cons_append, List.nil_append, List.zip_cons_cons, List.zip_nil_left, List.zip_nil_right, List.append_nil]); (conv => arg 6; unfold GT)
  simp only [↓s_nil, ↓s_cons, ↓s_pass, ↓s_brk, ↓s_ret, ↓s_asg, ↓s_tup, ↓s_aug, ↓s_if, ↓s_assert, ↓asg_nil, ↓asg_cons, ↓e_int, ↓e_str, ↓e_bool, ↓e_name, ↓e_bin, ↓e_un, ↓e_bool2, ↓e_if, ↓e_cmp, ↓e_call, ↓e_bits, ↓e_sub, ↓e_tup, ↓t_not, ↓t_bool, ↓t_if, ↓t_cmp, ↓t_name, ↓t_call, ↓t_bin, ↓t_const, ↓t_sub, ↓es_nil, ↓es_cons, ↓b_one, ↓b_and, ↓b_or, ↓a_nil_and, ↓a_nil_or, ↓a_and, ↓a_or, ↓c_one, ↓c_more, ↓d_one, ↓d_more, ↓tupk_tup, ↓intk_int, ↓ksq_next, ↓ksq_ret, ↓ksq_brk, ↓ksq_cont, ↓kdf_ret, ↓kdf_next, ↓klp_next, ↓klp_cont, ↓klp_brk, ↓klp_ret, ↓vl_cons, ↓vl_nil, ↓vg_cons, ↓vl0_cons, ↓upk_nil, ↓upk_cons, ↓bv_add, ↓bv_sub, ↓bv_mul, ↓bv_fdiv, ↓bv_mod, ↓bv_shl, ↓bv_shr, ↓bv_and, ↓bv_xor, ↓bv_pow, ↓av_add, ↓av_sub, ↓av_mul, ↓av_shl, ↓av_shr, ↓av_xor, ↓cv_eq, ↓cv_ne, ↓cv_lt, ↓cv_le, ↓cv_gt, ↓cv_ge, ↓cv_str, ↓cv_tup, ↓cv_in, ↓cv_instr, ↓tr_bool, ↓tr_int, ↓uv_neg, ↓uv_not, ↓br_dec, ↓br_tt, ↓br_ff, ↓br_not, ↓sub2_0, ↓sub2_1, ↓sub4_0, ok_name, ok_call, isG_eq, isL_eq, gk_cons, lc_cons, kg, kl, ↓reduceIte, List.all_cons, List.all_nil, List.isEmpty_cons, nstar, nset, nslice, ncall, ncomp, Bool.and_true, Bool.true_and, Bool.not_false, Bool.not_true, and_true, true_and, ne_eq, not_true, not_false_eq_true, List.length_cons, List.length_nil, ite_not, beq_self_eq_true, decide_false, decide_true, Bool.false_eq_true, ↓String.reduceEq, ↓String.reduceNe, Int.reduceLT, Int.reduceLE, Int.reduceGT, Int.reduceGE, Int.reduceEq, Int.reduceNe, Int.reduceNeg, Int.reduceAdd, Int.reduceSub, Int.reduceMul, Int.reduceToNat, Nat.reduceLT, Nat.reduceLeDiff, Nat.reduceAdd, Nat.reduceMul, Nat.reduceEqDiff]
  refine ⟨known_to_rational w, (to_rational_spec w (X := 1000) pa a1 a2 (by omega)).mono fun y hy => ?_⟩
  obtain ⟨P, Q, hP, hQ, hv, bP, bQ, rfl⟩ := hy
  simp only [↓s_nil, ↓s_cons, ↓s_pass, ↓s_brk, ↓s_ret, ↓s_asg, ↓s_tup, ↓s_aug, ↓s_if, ↓s_assert, ↓asg_nil, ↓asg_cons, ↓e_int, ↓e_str, ↓e_bool, ↓e_name, ↓e_bin, ↓e_un, ↓e_bool2, ↓e_if, ↓e_cmp, ↓e_call, ↓e_bits, ↓e_sub, ↓e_tup, ↓t_not, ↓t_bool, ↓t_if, ↓t_cmp, ↓t_name, ↓t_call, ↓t_bin, ↓t_const, ↓t_sub, ↓es_nil, ↓es_cons, ↓b_one, ↓b_and, ↓b_or, ↓a_nil_and, ↓a_nil_or, ↓a_and, ↓a_or, ↓c_one, ↓c_more, ↓d_one, ↓d_more, ↓tupk_tup, ↓intk_int, ↓ksq_next, ↓ksq_ret, ↓ksq_brk, ↓ksq_cont, ↓kdf_ret, ↓kdf_next, ↓klp_next, ↓klp_cont, ↓klp_brk, ↓klp_ret, ↓vl_cons, ↓vl_nil, ↓vg_cons, ↓vl0_cons, ↓upk_nil, ↓upk_cons, ↓bv_add, ↓bv_sub, ↓bv_mul, ↓bv_fdiv, ↓bv_mod, ↓bv_shl, ↓bv_shr, ↓bv_and, ↓bv_xor, ↓bv_pow, ↓av_add, ↓av_sub, ↓av_mul, ↓av_shl, ↓av_shr, ↓av_xor, ↓cv_eq, ↓cv_ne, ↓cv_lt, ↓cv_le, ↓cv_gt, ↓cv_ge, ↓cv_str, ↓cv_tup, ↓cv_in, ↓cv_instr, ↓tr_bool, ↓tr_int, ↓uv_neg, ↓uv_not, ↓br_dec, ↓br_tt, ↓br_ff, ↓br_not, ↓sub2_0, ↓sub2_1, ↓sub4_0, ok_name, ok_call, isG_eq, isL_eq, gk_cons, lc_cons, kg, kl, ↓reduceIte, List.all_cons, List.all_nil, List.isEmpty_cons, nstar, nset, nslice, ncall, ncomp, Bool.and_true, Bool.true_and, Bool.not_false, Bool.not_true, and_true, true_and, ne_eq, not_true, not_false_eq_true, List.length_cons, List.length_nil, ite_not, beq_self_eq_true, decide_false, decide_true, Bool.false_eq_true, ↓String.reduceEq, ↓String.reduceNe, Int.reduceLT, Int.reduceLE, Int.reduceGT, Int.reduceGE, Int.reduceEq, Int.reduceNe, Int.reduceNeg, Int.reduceAdd, Int.reduceSub, Int.reduceMul, Int.reduceToNat, Nat.reduceLT, Nat.reduceLeDiff, Nat.reduceAdd, Nat.reduceMul, Nat.reduceEqDiff]
  refine ⟨known_to_rational w, (to_rational_spec w (X := 1000) pb a3 a4 (by omega)).mono fun y hy => ?_⟩
  obtain ⟨P2, Q2, hP2, hQ2, hv2, bP2, bQ2, rfl⟩ := hy
  have aP := ab_nat (k := 1300) (Nat.le_trans bP (by omega))
  have aQ := ab_nat (k := 1300) (Nat.le_trans bQ (by omega))
  have aP2 := ab_nat (k := 1300) (Nat.le_trans bP2 (by omega))
  have aQ2 := ab_nat (k := 1300) (Nat.le_trans bQ2 (by omega))
  have t1 : ((num : Int) * Q < (P : Int) * den) = False := eq_false fun x => by
    have : (((num : Int) * Q : Int) : Rat) < (((P : Int) * den : Int) : Rat) := by exact_mod_cast x
    push_cast at this; rw [hv] at this
    have := Rat.mul_le_mul_of_nonneg_right c1 (Rat.natCast_nonneg (a := Q))
    grind
  have t2 : ((P2 : Int) * den < (num : Int) * Q2) = False := eq_false fun x => by
    have : (((P2 : Int) * den : Int) : Rat) < (((num : Int) * Q2 : Int) : Rat) := by exact_mod_cast x
    push_cast at this; rw [hv2] at this
    have := Rat.mul_le_mul_of_nonneg_right c2 (Rat.natCast_nonneg (a := Q2))
    grind
  simp only [↓s_nil, ↓s_cons, ↓s_pass, ↓s_brk, ↓s_ret, ↓s_asg, ↓s_tup, ↓s_aug, ↓s_if, ↓s_assert, ↓asg_nil, ↓asg_cons, ↓e_int, ↓e_str, ↓e_bool, ↓e_name, ↓e_bin, ↓e_un, ↓e_bool2, ↓e_if, ↓e_cmp, ↓e_call, ↓e_bits, ↓e_sub, ↓e_tup, ↓t_not, ↓t_bool, ↓t_if, ↓t_cmp, ↓t_name, ↓t_call, ↓t_bin, ↓t_const, ↓t_sub, ↓es_nil, ↓es_cons, ↓b_one, ↓b_and, ↓b_or, ↓a_nil_and, ↓a_nil_or, ↓a_and, ↓a_or, ↓c_one, ↓c_more, ↓d_one, ↓d_more, ↓tupk_tup, ↓intk_int, ↓ksq_next, ↓ksq_ret, ↓ksq_brk, ↓ksq_cont, ↓kdf_ret, ↓kdf_next, ↓klp_next, ↓klp_cont, ↓klp_brk, ↓klp_ret, ↓vl_cons, ↓vl_nil, ↓vg_cons, ↓vl0_cons, ↓upk_nil, ↓upk_cons, ↓bv_add, ↓bv_sub, ↓bv_mul, ↓bv_fdiv, ↓bv_mod, ↓bv_shl, ↓bv_shr, ↓bv_and, ↓bv_xor, ↓bv_pow, ↓av_add, ↓av_sub, ↓av_mul, ↓av_shl, ↓av_shr, ↓av_xor, ↓cv_eq, ↓cv_ne, ↓cv_lt, ↓cv_le, ↓cv_gt, ↓cv_ge, ↓cv_str, ↓cv_tup, ↓cv_in, ↓cv_instr, ↓tr_bool, ↓tr_int, ↓uv_neg, ↓uv_not, ↓br_dec, ↓br_tt, ↓br_ff, ↓br_not, ↓sub2_0, ↓sub2_1, ↓sub4_0, ok_name, ok_call, isG_eq, isL_eq, gk_cons, lc_cons, kg, kl, ↓reduceIte, List.all_cons, List.all_nil, List.isEmpty_cons, nstar, nset, nslice, ncall, ncomp, Bool.and_true, Bool.true_and, Bool.not_false, Bool.not_true, and_true, true_and, ne_eq, not_true, not_false_eq_true, List.length_cons, List.length_nil, ite_not, beq_self_eq_true, decide_false, decide_true, Bool.false_eq_true, ↓String.reduceEq, ↓String.reduceNe, Int.reduceLT, Int.reduceLE, Int.reduceGT, Int.reduceGE, Int.reduceEq, Int.reduceNe, Int.reduceNeg, Int.reduceAdd, Int.reduceSub, Int.reduceMul, Int.reduceToNat, Nat.reduceLT, Nat.reduceLeDiff, Nat.reduceAdd, Nat.reduceMul, Nat.reduceEqDiff, t1, t2, if_false]
  refine ⟨ok_mul (ab_up aP (by decide)) (ab_up ad (by decide)), ok_mul (ab_up an (by decide)) (ab_up aQ (by decide)), ok_mul (ab_up aP2 (by decide)) (ab_up ad (by decide)), ok_mul (ab_up an (by decide)) (ab_up aQ2 (by decide)), ?_⟩
  refine ⟨known_to_rational w, (to_rational_spec w (X := 1000) pa' a5 a6 (by omega)).mono fun y hy => ?_⟩
  obtain ⟨P3, Q3, hP3, hQ3, hv3, bP3, bQ3, rfl⟩ := hy
  simp only [↓s_nil, ↓s_cons, ↓s_pass, ↓s_brk, ↓s_ret, ↓s_asg, ↓s_tup, ↓s_aug, ↓s_if, ↓s_assert, ↓asg_nil, ↓asg_cons, ↓e_int, ↓e_str, ↓e_bool, ↓e_name, ↓e_bin, ↓e_un, ↓e_bool2, ↓e_if, ↓e_cmp, ↓e_call, ↓e_bits, ↓e_sub, ↓e_tup, ↓t_not, ↓t_bool, ↓t_if, ↓t_cmp, ↓t_name, ↓t_call, ↓t_bin, ↓t_const, ↓t_sub, ↓es_nil, ↓es_cons, ↓b_one, ↓b_and, ↓b_or, ↓a_nil_and, ↓a_nil_or, ↓a_and, ↓a_or, ↓c_one, ↓c_more, ↓d_one, ↓d_more, ↓tupk_tup, ↓intk_int, ↓ksq_next, ↓ksq_ret, ↓ksq_brk, ↓ksq_cont, ↓kdf_ret, ↓kdf_next, ↓klp_next, ↓klp_cont, ↓klp_brk, ↓klp_ret, ↓vl_cons, ↓vl_nil, ↓vg_cons, ↓vl0_cons, ↓upk_nil, ↓upk_cons, ↓bv_add, ↓bv_sub, ↓bv_mul, ↓bv_fdiv, ↓bv_mod, ↓bv_shl, ↓bv_shr, ↓bv_and, ↓bv_xor, ↓bv_pow, ↓av_add, ↓av_sub, ↓av_mul, ↓av_shl, ↓av_shr, ↓av_xor, ↓cv_eq, ↓cv_ne, ↓cv_lt, ↓cv_le, ↓cv_gt, ↓cv_ge, ↓cv_str, ↓cv_tup, ↓cv_in, ↓cv_instr, ↓tr_bool, ↓tr_int, ↓uv_neg, ↓uv_not, ↓br_dec, ↓br_tt, ↓br_ff, ↓br_not, ↓sub2_0, ↓sub2_1, ↓sub4_0, ok_name, ok_call, isG_eq, isL_eq, gk_cons, lc_cons, kg, kl, ↓reduceIte, List.all_cons, List.all_nil, List.isEmpty_cons, nstar, nset, nslice, ncall, ncomp, Bool.and_true, Bool.true_and, Bool.not_false, Bool.not_true, and_true, true_and, ne_eq, not_true, not_false_eq_true, List.length_cons, List.length_nil, ite_not, beq_self_eq_true, decide_false, decide_true, Bool.false_eq_true, ↓String.reduceEq, ↓String.reduceNe, Int.reduceLT, Int.reduceLE, Int.reduceGT, Int.reduceGE, Int.reduceEq, Int.reduceNe, Int.reduceNeg, Int.reduceAdd, Int.reduceSub, Int.reduceMul, Int.reduceToNat, Nat.reduceLT, Nat.reduceLeDiff, Nat.reduceAdd, Nat.reduceMul, Nat.reduceEqDiff]
  refine ⟨known_to_rational w, (to_rational_spec w (X := 1000) pb' a7 a8 (by omega)).mono fun y hy => ?_⟩
  obtain ⟨P4, Q4, hP4, hQ4, hv4, bP4, bQ4, rfl⟩ := hy
  have aP3 := ab_nat (k := 1300) (Nat.le_trans bP3 (by omega))
  have aQ3 := ab_nat (k := 1300) (Nat.le_trans bQ3 (by omega))
  have aP4 := ab_nat (k := 1300) (Nat.le_trans bP4 (by omega))
  have aQ4 := ab_nat (k := 1300) (Nat.le_trans bQ4 (by omega))
  have o1 : IntMulOk P2 Q3 := ok_mul (ab_up aP2 (by decide)) (ab_up aQ3 (by decide))
  have o2 : IntMulOk P3 Q2 := ok_mul (ab_up aP3 (by decide)) (ab_up aQ2 (by decide))
  have o3 : IntMulOk P Q4 := ok_mul (ab_up aP (by decide)) (ab_up aQ4 (by decide))
  have o4 : IntMulOk P4 Q := ok_mul (ab_up aP4 (by decide)) (ab_up aQ (by decide))
  have o5 : IntMulOk num num := ok_mul (ab_up an (by decide)) (ab_up an (by decide))
  have o6 : IntMulOk n den := ok_mul (ab_up ann (by decide)) (ab_up ad (by decide))
  have o7 : IntMulOk ((n : Int) * den) den := ok_mul (ab_up and1 (by decide)) (ab_up ad (by decide))
  have f1 := frac_lt hv2 hv3 hQ2 hQ3
  have f2 := frac_le hv4 hv hQ4 hQ
  have f3 : ((num : Int) * num < (n : Int) * den * den) = (num * num < n * den * den) := by
    rw [← Int.natCast_mul, ← Int.natCast_mul, ← Int.natCast_mul]; exact propext Int.ofNat_lt
  simp only [↓s_nil, ↓s_cons, ↓s_pass, ↓s_brk, ↓s_ret, ↓s_asg, ↓s_tup, ↓s_aug, ↓s_if, ↓s_assert, ↓asg_nil, ↓asg_cons, ↓e_int, ↓e_str, ↓e_bool, ↓e_name, ↓e_bin, ↓e_un, ↓e_bool2, ↓e_if, ↓e_cmp, ↓e_call, ↓e_bits, ↓e_sub, ↓e_tup, ↓t_not, ↓t_bool, ↓t_if, ↓t_cmp, ↓t_name, ↓t_call, ↓t_bin, ↓t_const, ↓t_sub, ↓es_nil, ↓es_cons, ↓b_one, ↓b_and, ↓b_or, ↓a_nil_and, ↓a_nil_or, ↓a_and, ↓a_or, ↓c_one, ↓c_more, ↓d_one, ↓d_more, ↓tupk_tup, ↓intk_int, ↓ksq_next, ↓ksq_ret, ↓ksq_brk, ↓ksq_cont, ↓kdf_ret, ↓kdf_next, ↓klp_next, ↓klp_cont, ↓klp_brk, ↓klp_ret, ↓vl_cons, ↓vl_nil, ↓vg_cons, ↓vl0_cons, ↓upk_nil, ↓upk_cons, ↓bv_add, ↓bv_sub, ↓bv_mul, ↓bv_fdiv, ↓bv_mod, ↓bv_shl, ↓bv_shr, ↓bv_and, ↓bv_xor, ↓bv_pow, ↓av_add, ↓av_sub, ↓av_mul, ↓av_shl, ↓av_shr, ↓av_xor, ↓cv_eq, ↓cv_ne, ↓cv_lt, ↓cv_le, ↓cv_gt, ↓cv_ge, ↓cv_str, ↓cv_tup, ↓cv_in, ↓cv_instr, ↓tr_bool, ↓tr_int, ↓uv_neg, ↓uv_not, ↓br_dec, ↓br_tt, ↓br_ff, ↓br_not, ↓sub2_0, ↓sub2_1, ↓sub4_0, ok_name, ok_call, isG_eq, isL_eq, gk_cons, lc_cons, kg, kl, ↓reduceIte, List.all_cons, List.all_nil, List.isEmpty_cons, nstar, nset, nslice, ncall, ncomp, Bool.and_true, Bool.true_and, Bool.not_false, Bool.not_true, and_true, true_and, ne_eq, not_true, not_false_eq_true, List.length_cons, List.length_nil, ite_not, beq_self_eq_true, decide_false, decide_true, Bool.false_eq_true, ↓String.reduceEq, ↓String.reduceNe, Int.reduceLT, Int.reduceLE, Int.reduceGT, Int.reduceGE, Int.reduceEq, Int.reduceNe, Int.reduceNeg, Int.reduceAdd, Int.reduceSub, Int.reduceMul, Int.reduceToNat, Nat.reduceLT, Nat.reduceLeDiff, Nat.reduceAdd, Nat.reduceMul, Nat.reduceEqDiff, f1, f2, f3, o1, o2, o3, o4, o5, o6, o7]
  rcases hw with ⟨w1, w2, rfl⟩ | ⟨w1, w2, w3, rfl⟩ | ⟨w1, w2, rfl⟩
  · rw [if_pos w1, if_pos w2]
    exact ⟨_, rfl, _, _, _, _, _, _, _, _, rfl⟩
  · rw [if_neg w1, if_pos w2, if_neg w3]
    exact ⟨_, rfl, _, _, _, _, _, _, _, _, rfl⟩
  · rw [if_neg w1, if_neg w2]
    exact ⟨_, rfl, _, _, _, _, _, _, _, _, rfl⟩
theorem up_like {s s₁ s₂ : Shared} {L : Addr} (u : s.heap.UpToSlots s₁.heap) (lk : Like L s₁ s₂) (hL : s.heap.get? L = none) : s.heap.UpToSlots s₂.heap := fun b o e n => by
  obtain ⟨sl, h⟩ := u b o e n
  exact ⟨sl, lk.2 b _ (fun q => by rw [q, hL] at e; cases e) h⟩
theorem Rm.mono {n m : Nat} {A : Around} (R : Rm n A) (h : m ≤ n) : Rm m A := ⟨R.hh, by have := R.dep; omega, by have := R.un; omega⟩
theorem LoadsTo.ilt (w : World) : LoadsTo (KK w) (Str.ofString "mpi_lt") (.ref 239) := .inl (d_mpi_lt w).at'
set_option maxHeartbeats 4000000 in
theorem beside_call (w : World) {A : Around} {s : Shared} {vs : List Value} {l : List Env} {Q : Value → Shared → Prop} {p num den n : Nat} {cl ch fl fh : Rat} {dc df : D}
    (hst : A.frames = some l) (f : FF l s.heap) (R : Rm 13 A) (g : Gd (KK w) (Hid l s.heap)) (r : RVs s.heap vs [dc, df, .int num, .int den, .int n])
    (hp : p ≤ 200) (hc : PI p cl ch dc) (hf : PI p fl fh df) (s1 : Sz cl) (s2 : Sz ch) (s3 : Sz fl) (s4 : Sz fh)
    (a1 : pw (-1000) ≤ cl) (a2 : cl ≤ pw 1000) (a3 : pw (-1000) ≤ ch) (a4 : ch ≤ pw 1000) (a5 : pw (-1000) ≤ fl) (a6 : fl ≤ pw 1000) (a7 : pw (-1000) ≤ fh) (a8 : fh ≤ pw 1000)
    (c1 : cl * den ≤ num) (c2 : (num : Rat) ≤ ch * den) (bn : bl num ≤ 1000) (bd : bl den ≤ 1000) (bnn : bl n ≤ 200)
    (k1 : ch < fl → num * num < n * den * den) (k2 : fh ≤ cl → ¬ num * num < n * den * den)
    (hq : ∀ s', ExU l s s' → Q (.bool true) s') : wpAny (model PP w) A (call (.ref 305) vs) Q (fun _ _ => False) s := by
  have kp : Kp (Hid l s.heap) s.heap := fun b o e => (hid_of e).1
  refine call_gen (d_ulaw_beside w) rfl R (g.kp kp) r fun s₁ L nm cd I x hL R' => ?_
  refine wpAny_mono (?_ : wpAny _ _ _ _ (fun _ _ => False) s₁) (fun _ _ x => x) (fun _ _ x => x.elim)
  have I : Inn (KK w) (Hid l s.heap) L _ _ s₁ := I.ground g kp (hideAll_size _ _)
  have off : Off l (Hid l s.heap) := off_hid
  have u1 : s.heap.UpToSlots s₁.heap := Heap.UpToSlots.of_keeps x.2
  obtain ⟨want, hw⟩ : ∃ want, Wants cl ch fl fh num den n want := by
    by_cases q1 : ch < fl
    · exact ⟨_, .inl ⟨q1, k1 q1, rfl⟩⟩
    · by_cases q2 : fh ≤ cl
      · exact ⟨_, .inr (.inl ⟨q1, q2, k2 q2, rfl⟩)⟩
      · exact ⟨_, .inr (.inr ⟨q1, q2, rfl⟩)⟩
  rw [← List.take_append_drop 7 (fbody _ _)]
  refine wps_then (gok w) _ _ _ (beside_head w hp hc hf a1 a2 a3 a4 a5 a6 a7 a8 c1 c2 bn bd bnn hw) _ _ _ _ _ _ _ _ _ _ R' I fun flw s₂ o ho hf₂ lk => ?_
  obtain ⟨ρ, rfl, la, lb, ha, hb, fa, fb, ga, gb, rfl⟩ := ho
  cases flw <;> first | exact (hf₂ : False).elim | skip
  have u2 := up_like u1 lk hL
  have l2 : ∃ h t, s₂ = { s with heap := h, toks := t } := by
    obtain ⟨h1, t1, rfl⟩ := x.1
    obtain ⟨⟨h2, t2, rfl⟩, _⟩ := lk
    exact ⟨_, _, rfl⟩
  show wpAny _ _ (execs (List.drop 7 (fbody (KK w) 305)) _) _ _ _
  (conv => arg 3; arg 1; arg 2; whnf)
  simp only [List.drop_succ_cons, List.drop_zero]
  replace hf₂ : Inn (KK w) (Hid l s.heap) L _ _ s₂ := hf₂
  refine wpAny_execs_cons (wpAny_Try_except ?_)
  rcases hw with ⟨w1, w2, rfl⟩ | ⟨w1, w2, w3, rfl⟩ | ⟨w1, w2, rfl⟩
  ·
    refine wpAny_mono (wps_sound (n := 12) (gok w) _ _ (fun o => o = .next ([(Str.ofString "close", dc), (Str.ofString "first", df), (Str.ofString "num", .int num), (Str.ofString "den", .int den), (Str.ofString "n", .int n),
      (Str.ofString "la", .int la), (Str.ofString "lb", .int lb), (Str.ofString "ha", .int ha), (Str.ofString "hb", .int hb), (Str.ofString "fa", .int fa), (Str.ofString "fb", .int fb), (Str.ofString "ga", .int ga), (Str.ofString "gb", .int gb), (Str.ofString "want", .str (Str.ofString "below")), (Str.ofString "got", .str (Str.ofString "below"))] : Ev)) ?_ _ _ _ _ _ _ _ (fun f s' => f = .next ∧ Inn (KK w) (Hid l s.heap) L (fscope (KK w) 305) ([(Str.ofString "close", dc), (Str.ofString "first", df), (Str.ofString "num", .int num), (Str.ofString "den", .int den), (Str.ofString "n", .int n),
      (Str.ofString "la", .int la), (Str.ofString "lb", .int lb), (Str.ofString "ha", .int ha), (Str.ofString "hb", .int hb), (Str.ofString "fa", .int fa), (Str.ofString "fb", .int fb), (Str.ofString "ga", .int ga), (Str.ofString "gb", .int gb), (Str.ofString "want", .str (Str.ofString "below")), (Str.ofString "got", .str (Str.ofString "below"))] : Ev) s' ∧ Like L s₂ s') R' hf₂ fun f3 s3 o3 ho3 hf3 lk3 => ?_) (fun f3 s3 x3 => ?_) (fun _ _ x => x.elim)
    · (conv => arg 5; whnf); (conv => arg 6; unfold GT)
      simp only [↓s_nil, ↓s_cons, ↓s_pass, ↓s_brk, ↓s_ret, ↓s_asg, ↓s_tup, ↓s_aug, ↓s_if, ↓s_assert, ↓asg_nil, ↓asg_cons, ↓e_int, ↓e_str, ↓e_bool, ↓e_name, ↓e_bin, ↓e_un, ↓e_bool2, ↓e_if, ↓e_cmp, ↓e_call, ↓e_bits, ↓e_sub, ↓e_tup, ↓t_not, ↓t_bool, ↓t_if, ↓t_cmp, ↓t_name, ↓t_call, ↓t_bin, ↓t_const, ↓t_sub, ↓es_nil, ↓es_cons, ↓b_one, ↓b_and, ↓b_or, ↓a_nil_and, ↓a_nil_or, ↓a_and, ↓a_or, ↓c_one, ↓c_more, ↓d_one, ↓d_more, ↓tupk_tup, ↓intk_int, ↓ksq_next, ↓ksq_ret, ↓ksq_brk, ↓ksq_cont, ↓kdf_ret, ↓kdf_next, ↓klp_next, ↓klp_cont, ↓klp_brk, ↓klp_ret, ↓vl_cons, ↓vl_nil, ↓vg_cons, ↓vl0_cons, ↓upk_nil, ↓upk_cons, ↓bv_add, ↓bv_sub, ↓bv_mul, ↓bv_fdiv, ↓bv_mod, ↓bv_shl, ↓bv_shr, ↓bv_and, ↓bv_xor, ↓bv_pow, ↓av_add, ↓av_sub, ↓av_mul, ↓av_shl, ↓av_shr, ↓av_xor, ↓cv_eq, ↓cv_ne, ↓cv_lt, ↓cv_le, ↓cv_gt, ↓cv_ge, ↓cv_str, ↓cv_tup, ↓cv_in, ↓cv_instr, ↓tr_bool, ↓tr_int, ↓uv_neg, ↓uv_not, ↓br_dec, ↓br_tt, ↓br_ff, ↓br_not, ↓sub2_0, ↓sub2_1, ↓sub4_0, ok_name, ok_call, isG_eq, isL_eq, gk_cons, lc_cons, kg, kl, ↓reduceIte, List.all_cons, List.all_nil, List.isEmpty_cons, nstar, nset, nslice, ncall, ncomp, Bool.and_true, Bool.true_and, Bool.not_false, Bool.not_true, and_true, true_and, ne_eq, not_true, not_false_eq_true, List.length_cons, List.length_nil, ite_not, beq_self_eq_true, decide_false, decide_true, Bool.false_eq_true, ↓String.reduceEq, ↓String.reduceNe, Int.reduceLT, Int.reduceLE, Int.reduceGT, Int.reduceGE, Int.reduceEq, Int.reduceNe, Int.reduceNeg, Int.reduceAdd, Int.reduceSub, Int.reduceMul, Int.reduceToNat, Nat.reduceLT, Nat.reduceLeDiff, Nat.reduceAdd, Nat.reduceMul, Nat.reduceEqDiff]
      refine ⟨known_ilt w, (ilt_yes w (by omega) (by omega) hc hf s2 s3 w1).mono fun d hd => ?_⟩
      subst hd
      simp only [↓s_nil, ↓s_cons, ↓s_pass, ↓s_brk, ↓s_ret, ↓s_asg, ↓s_tup, ↓s_aug, ↓s_if, ↓s_assert, ↓asg_nil, ↓asg_cons, ↓e_int, ↓e_str, ↓e_bool, ↓e_name, ↓e_bin, ↓e_un, ↓e_bool2, ↓e_if, ↓e_cmp, ↓e_call, ↓e_bits, ↓e_sub, ↓e_tup, ↓t_not, ↓t_bool, ↓t_if, ↓t_cmp, ↓t_name, ↓t_call, ↓t_bin, ↓t_const, ↓t_sub, ↓es_nil, ↓es_cons, ↓b_one, ↓b_and, ↓b_or, ↓a_nil_and, ↓a_nil_or, ↓a_and, ↓a_or, ↓c_one, ↓c_more, ↓d_one, ↓d_more, ↓tupk_tup, ↓intk_int, ↓ksq_next, ↓ksq_ret, ↓ksq_brk, ↓ksq_cont, ↓kdf_ret, ↓kdf_next, ↓klp_next, ↓klp_cont, ↓klp_brk, ↓klp_ret, ↓vl_cons, ↓vl_nil, ↓vg_cons, ↓vl0_cons, ↓upk_nil, ↓upk_cons, ↓bv_add, ↓bv_sub, ↓bv_mul, ↓bv_fdiv, ↓bv_mod, ↓bv_shl, ↓bv_shr, ↓bv_and, ↓bv_xor, ↓bv_pow, ↓av_add, ↓av_sub, ↓av_mul, ↓av_shl, ↓av_shr, ↓av_xor, ↓cv_eq, ↓cv_ne, ↓cv_lt, ↓cv_le, ↓cv_gt, ↓cv_ge, ↓cv_str, ↓cv_tup, ↓cv_in, ↓cv_instr, ↓tr_bool, ↓tr_int, ↓uv_neg, ↓uv_not, ↓br_dec, ↓br_tt, ↓br_ff, ↓br_not, ↓sub2_0, ↓sub2_1, ↓sub4_0, ok_name, ok_call, isG_eq, isL_eq, gk_cons, lc_cons, kg, kl, ↓reduceIte, List.all_cons, List.all_nil, List.isEmpty_cons, nstar, nset, nslice, ncall, ncomp, Bool.and_true, Bool.true_and, Bool.not_false, Bool.not_true, and_true, true_and, ne_eq, not_true, not_false_eq_true, List.length_cons, List.length_nil, ite_not, beq_self_eq_true, decide_false, decide_true, Bool.false_eq_true, ↓String.reduceEq, ↓String.reduceNe, Int.reduceLT, Int.reduceLE, Int.reduceGT, Int.reduceGE, Int.reduceEq, Int.reduceNe, Int.reduceNeg, Int.reduceAdd, Int.reduceSub, Int.reduceMul, Int.reduceToNat, Nat.reduceLT, Nat.reduceLeDiff, Nat.reduceAdd, Nat.reduceMul, Nat.reduceEqDiff]
    · subst ho3
      cases f3 <;> first | exact (hf3 : False).elim | skip
      exact ⟨rfl, hf3, lk3⟩
    · obtain ⟨rfl, I3, lk3⟩ := x3
      have u3 := up_like u2 lk3 hL
      have l3 : ∃ h t, s3 = { s with heap := h, toks := t } := by
        obtain ⟨h1, t1, e1⟩ := l2
        obtain ⟨⟨h2, t2, e2⟩, _⟩ := lk3
        exact ⟨h2, t2, by rw [e2, e1]⟩
      refine wpAny_execs_nil ?_
      refine wpAny_mono (wps_sound (n := 12) (gok w) _ _ (fun o => o = .ret (.bool true)) ?_ _ _ _ _ _ _ _ (fun fl s' => Q (match fl with | .ret v => v | _ => .none) s') R' I3 fun f4 s4 o4 ho4 hf4 lk4 => ?_) (fun _ _ x => x) (fun _ _ x => x.elim)
      · (conv => arg 5; whnf); (conv => arg 6; unfold GT)
        simp only [↓s_nil, ↓s_cons, ↓s_pass, ↓s_brk, ↓s_ret, ↓s_asg, ↓s_tup, ↓s_aug, ↓s_if, ↓s_assert, ↓asg_nil, ↓asg_cons, ↓e_int, ↓e_str, ↓e_bool, ↓e_name, ↓e_bin, ↓e_un, ↓e_bool2, ↓e_if, ↓e_cmp, ↓e_call, ↓e_bits, ↓e_sub, ↓e_tup, ↓t_not, ↓t_bool, ↓t_if, ↓t_cmp, ↓t_name, ↓t_call, ↓t_bin, ↓t_const, ↓t_sub, ↓es_nil, ↓es_cons, ↓b_one, ↓b_and, ↓b_or, ↓a_nil_and, ↓a_nil_or, ↓a_and, ↓a_or, ↓c_one, ↓c_more, ↓d_one, ↓d_more, ↓tupk_tup, ↓intk_int, ↓ksq_next, ↓ksq_ret, ↓ksq_brk, ↓ksq_cont, ↓kdf_ret, ↓kdf_next, ↓klp_next, ↓klp_cont, ↓klp_brk, ↓klp_ret, ↓vl_cons, ↓vl_nil, ↓vg_cons, ↓vl0_cons, ↓upk_nil, ↓upk_cons, ↓bv_add, ↓bv_sub, ↓bv_mul, ↓bv_fdiv, ↓bv_mod, ↓bv_shl, ↓bv_shr, ↓bv_and, ↓bv_xor, ↓bv_pow, ↓av_add, ↓av_sub, ↓av_mul, ↓av_shl, ↓av_shr, ↓av_xor, ↓cv_eq, ↓cv_ne, ↓cv_lt, ↓cv_le, ↓cv_gt, ↓cv_ge, ↓cv_str, ↓cv_tup, ↓cv_in, ↓cv_instr, ↓tr_bool, ↓tr_int, ↓uv_neg, ↓uv_not, ↓br_dec, ↓br_tt, ↓br_ff, ↓br_not, ↓sub2_0, ↓sub2_1, ↓sub4_0, ok_name, ok_call, isG_eq, isL_eq, gk_cons, lc_cons, kg, kl, ↓reduceIte, List.all_cons, List.all_nil, List.isEmpty_cons, nstar, nset, nslice, ncall, ncomp, Bool.and_true, Bool.true_and, Bool.not_false, Bool.not_true, and_true, true_and, ne_eq, not_true, not_false_eq_true, List.length_cons, List.length_nil, ite_not, beq_self_eq_true, decide_false, decide_true, Bool.false_eq_true, ↓String.reduceEq, ↓String.reduceNe, Int.reduceLT, Int.reduceLE, Int.reduceGT, Int.reduceGE, Int.reduceEq, Int.reduceNe, Int.reduceNeg, Int.reduceAdd, Int.reduceSub, Int.reduceMul, Int.reduceToNat, Nat.reduceLT, Nat.reduceLeDiff, Nat.reduceAdd, Nat.reduceMul, Nat.reduceEqDiff, eq_self_iff_true]
      · subst ho4
        cases f4 <;> first | exact (hf4 : False).elim | skip
        obtain ⟨⟨m4, F4⟩, rv4⟩ := hf4
        obtain rfl := rv4.bool_inv
        refine hq _ ⟨?_, F4.keep, up_like u3 lk4 hL⟩
        obtain ⟨h5, t5, e5⟩ := l3
        obtain ⟨⟨h6, t6, e6⟩, _⟩ := lk4
        exact ⟨h6, t6, by rw [e6, e5]⟩
  ·
    refine wpAny_mono (wps_sound (n := 12) (gok w) _ _ (fun o => o = .next ([(Str.ofString "close", dc), (Str.ofString "first", df), (Str.ofString "num", .int num), (Str.ofString "den", .int den), (Str.ofString "n", .int n),
      (Str.ofString "la", .int la), (Str.ofString "lb", .int lb), (Str.ofString "ha", .int ha), (Str.ofString "hb", .int hb), (Str.ofString "fa", .int fa), (Str.ofString "fb", .int fb), (Str.ofString "ga", .int ga), (Str.ofString "gb", .int gb), (Str.ofString "want", .str (Str.ofString "not below")), (Str.ofString "got", .str (Str.ofString "not below"))] : Ev)) ?_ _ _ _ _ _ _ _ (fun f s' => f = .next ∧ Inn (KK w) (Hid l s.heap) L (fscope (KK w) 305) ([(Str.ofString "close", dc), (Str.ofString "first", df), (Str.ofString "num", .int num), (Str.ofString "den", .int den), (Str.ofString "n", .int n),
      (Str.ofString "la", .int la), (Str.ofString "lb", .int lb), (Str.ofString "ha", .int ha), (Str.ofString "hb", .int hb), (Str.ofString "fa", .int fa), (Str.ofString "fb", .int fb), (Str.ofString "ga", .int ga), (Str.ofString "gb", .int gb), (Str.ofString "want", .str (Str.ofString "not below")), (Str.ofString "got", .str (Str.ofString "not below"))] : Ev) s' ∧ Like L s₂ s') R' hf₂ fun f3 s3 o3 ho3 hf3 lk3 => ?_) (fun f3 s3 x3 => ?_) (fun _ _ x => x.elim)
    · (conv => arg 5; whnf); (conv => arg 6; unfold GT)
      simp only [↓s_nil, ↓s_cons, ↓s_pass, ↓s_brk, ↓s_ret, ↓s_asg, ↓s_tup, ↓s_aug, ↓s_if, ↓s_assert, ↓asg_nil, ↓asg_cons, ↓e_int, ↓e_str, ↓e_bool, ↓e_name, ↓e_bin, ↓e_un, ↓e_bool2, ↓e_if, ↓e_cmp, ↓e_call, ↓e_bits, ↓e_sub, ↓e_tup, ↓t_not, ↓t_bool, ↓t_if, ↓t_cmp, ↓t_name, ↓t_call, ↓t_bin, ↓t_const, ↓t_sub, ↓es_nil, ↓es_cons, ↓b_one, ↓b_and, ↓b_or, ↓a_nil_and, ↓a_nil_or, ↓a_and, ↓a_or, ↓c_one, ↓c_more, ↓d_one, ↓d_more, ↓tupk_tup, ↓intk_int, ↓ksq_next, ↓ksq_ret, ↓ksq_brk, ↓ksq_cont, ↓kdf_ret, ↓kdf_next, ↓klp_next, ↓klp_cont, ↓klp_brk, ↓klp_ret, ↓vl_cons, ↓vl_nil, ↓vg_cons, ↓vl0_cons, ↓upk_nil, ↓upk_cons, ↓bv_add, ↓bv_sub, ↓bv_mul, ↓bv_fdiv, ↓bv_mod, ↓bv_shl, ↓bv_shr, ↓bv_and, ↓bv_xor, ↓bv_pow, ↓av_add, ↓av_sub, ↓av_mul, ↓av_shl, ↓av_shr, ↓av_xor, ↓cv_eq, ↓cv_ne, ↓cv_lt, ↓cv_le, ↓cv_gt, ↓cv_ge, ↓cv_str, ↓cv_tup, ↓cv_in, ↓cv_instr, ↓tr_bool, ↓tr_int, ↓uv_neg, ↓uv_not, ↓br_dec, ↓br_tt, ↓br_ff, ↓br_not, ↓sub2_0, ↓sub2_1, ↓sub4_0, ok_name, ok_call, isG_eq, isL_eq, gk_cons, lc_cons, kg, kl, ↓reduceIte, List.all_cons, List.all_nil, List.isEmpty_cons, nstar, nset, nslice, ncall, ncomp, Bool.and_true, Bool.true_and, Bool.not_false, Bool.not_true, and_true, true_and, ne_eq, not_true, not_false_eq_true, List.length_cons, List.length_nil, ite_not, beq_self_eq_true, decide_false, decide_true, Bool.false_eq_true, ↓String.reduceEq, ↓String.reduceNe, Int.reduceLT, Int.reduceLE, Int.reduceGT, Int.reduceGE, Int.reduceEq, Int.reduceNe, Int.reduceNeg, Int.reduceAdd, Int.reduceSub, Int.reduceMul, Int.reduceToNat, Nat.reduceLT, Nat.reduceLeDiff, Nat.reduceAdd, Nat.reduceMul, Nat.reduceEqDiff]
      refine ⟨known_ilt w, (ilt_no w (by omega) (by omega) hc hf s1 s2 s3 s4 w1 w2).mono fun d hd => ?_⟩
      subst hd
      simp only [↓s_nil, ↓s_cons, ↓s_pass, ↓s_brk, ↓s_ret, ↓s_asg, ↓s_tup, ↓s_aug, ↓s_if, ↓s_assert, ↓asg_nil, ↓asg_cons, ↓e_int, ↓e_str, ↓e_bool, ↓e_name, ↓e_bin, ↓e_un, ↓e_bool2, ↓e_if, ↓e_cmp, ↓e_call, ↓e_bits, ↓e_sub, ↓e_tup, ↓t_not, ↓t_bool, ↓t_if, ↓t_cmp, ↓t_name, ↓t_call, ↓t_bin, ↓t_const, ↓t_sub, ↓es_nil, ↓es_cons, ↓b_one, ↓b_and, ↓b_or, ↓a_nil_and, ↓a_nil_or, ↓a_and, ↓a_or, ↓c_one, ↓c_more, ↓d_one, ↓d_more, ↓tupk_tup, ↓intk_int, ↓ksq_next, ↓ksq_ret, ↓ksq_brk, ↓ksq_cont, ↓kdf_ret, ↓kdf_next, ↓klp_next, ↓klp_cont, ↓klp_brk, ↓klp_ret, ↓vl_cons, ↓vl_nil, ↓vg_cons, ↓vl0_cons, ↓upk_nil, ↓upk_cons, ↓bv_add, ↓bv_sub, ↓bv_mul, ↓bv_fdiv, ↓bv_mod, ↓bv_shl, ↓bv_shr, ↓bv_and, ↓bv_xor, ↓bv_pow, ↓av_add, ↓av_sub, ↓av_mul, ↓av_shl, ↓av_shr, ↓av_xor, ↓cv_eq, ↓cv_ne, ↓cv_lt, ↓cv_le, ↓cv_gt, ↓cv_ge, ↓cv_str, ↓cv_tup, ↓cv_in, ↓cv_instr, ↓tr_bool, ↓tr_int, ↓uv_neg, ↓uv_not, ↓br_dec, ↓br_tt, ↓br_ff, ↓br_not, ↓sub2_0, ↓sub2_1, ↓sub4_0, ok_name, ok_call, isG_eq, isL_eq, gk_cons, lc_cons, kg, kl, ↓reduceIte, List.all_cons, List.all_nil, List.isEmpty_cons, nstar, nset, nslice, ncall, ncomp, Bool.and_true, Bool.true_and, Bool.not_false, Bool.not_true, and_true, true_and, ne_eq, not_true, not_false_eq_true, List.length_cons, List.length_nil, ite_not, beq_self_eq_true, decide_false, decide_true, Bool.false_eq_true, ↓String.reduceEq, ↓String.reduceNe, Int.reduceLT, Int.reduceLE, Int.reduceGT, Int.reduceGE, Int.reduceEq, Int.reduceNe, Int.reduceNeg, Int.reduceAdd, Int.reduceSub, Int.reduceMul, Int.reduceToNat, Nat.reduceLT, Nat.reduceLeDiff, Nat.reduceAdd, Nat.reduceMul, Nat.reduceEqDiff]
    · subst ho3
      cases f3 <;> first | exact (hf3 : False).elim | skip
      exact ⟨rfl, hf3, lk3⟩
    · obtain ⟨rfl, I3, lk3⟩ := x3
      have u3 := up_like u2 lk3 hL
      have l3 : ∃ h t, s3 = { s with heap := h, toks := t } := by
        obtain ⟨h1, t1, e1⟩ := l2
        obtain ⟨⟨h2, t2, e2⟩, _⟩ := lk3
        exact ⟨h2, t2, by rw [e2, e1]⟩
      refine wpAny_execs_nil ?_
      refine wpAny_mono (wps_sound (n := 12) (gok w) _ _ (fun o => o = .ret (.bool true)) ?_ _ _ _ _ _ _ _ (fun fl s' => Q (match fl with | .ret v => v | _ => .none) s') R' I3 fun f4 s4 o4 ho4 hf4 lk4 => ?_) (fun _ _ x => x) (fun _ _ x => x.elim)
      · (conv => arg 5; whnf); (conv => arg 6; unfold GT)
        simp only [↓s_nil, ↓s_cons, ↓s_pass, ↓s_brk, ↓s_ret, ↓s_asg, ↓s_tup, ↓s_aug, ↓s_if, ↓s_assert, ↓asg_nil, ↓asg_cons, ↓e_int, ↓e_str, ↓e_bool, ↓e_name, ↓e_bin, ↓e_un, ↓e_bool2, ↓e_if, ↓e_cmp, ↓e_call, ↓e_bits, ↓e_sub, ↓e_tup, ↓t_not, ↓t_bool, ↓t_if, ↓t_cmp, ↓t_name, ↓t_call, ↓t_bin, ↓t_const, ↓t_sub, ↓es_nil, ↓es_cons, ↓b_one, ↓b_and, ↓b_or, ↓a_nil_and, ↓a_nil_or, ↓a_and, ↓a_or, ↓c_one, ↓c_more, ↓d_one, ↓d_more, ↓tupk_tup, ↓intk_int, ↓ksq_next, ↓ksq_ret, ↓ksq_brk, ↓ksq_cont, ↓kdf_ret, ↓kdf_next, ↓klp_next, ↓klp_cont, ↓klp_brk, ↓klp_ret, ↓vl_cons, ↓vl_nil, ↓vg_cons, ↓vl0_cons, ↓upk_nil, ↓upk_cons, ↓bv_add, ↓bv_sub, ↓bv_mul, ↓bv_fdiv, ↓bv_mod, ↓bv_shl, ↓bv_shr, ↓bv_and, ↓bv_xor, ↓bv_pow, ↓av_add, ↓av_sub, ↓av_mul, ↓av_shl, ↓av_shr, ↓av_xor, ↓cv_eq, ↓cv_ne, ↓cv_lt, ↓cv_le, ↓cv_gt, ↓cv_ge, ↓cv_str, ↓cv_tup, ↓cv_in, ↓cv_instr, ↓tr_bool, ↓tr_int, ↓uv_neg, ↓uv_not, ↓br_dec, ↓br_tt, ↓br_ff, ↓br_not, ↓sub2_0, ↓sub2_1, ↓sub4_0, ok_name, ok_call, isG_eq, isL_eq, gk_cons, lc_cons, kg, kl, ↓reduceIte, List.all_cons, List.all_nil, List.isEmpty_cons, nstar, nset, nslice, ncall, ncomp, Bool.and_true, Bool.true_and, Bool.not_false, Bool.not_true, and_true, true_and, ne_eq, not_true, not_false_eq_true, List.length_cons, List.length_nil, ite_not, beq_self_eq_true, decide_false, decide_true, Bool.false_eq_true, ↓String.reduceEq, ↓String.reduceNe, Int.reduceLT, Int.reduceLE, Int.reduceGT, Int.reduceGE, Int.reduceEq, Int.reduceNe, Int.reduceNeg, Int.reduceAdd, Int.reduceSub, Int.reduceMul, Int.reduceToNat, Nat.reduceLT, Nat.reduceLeDiff, Nat.reduceAdd, Nat.reduceMul, Nat.reduceEqDiff, eq_self_iff_true]
      · subst ho4
        cases f4 <;> first | exact (hf4 : False).elim | skip
        obtain ⟨⟨m4, F4⟩, rv4⟩ := hf4
        obtain rfl := rv4.bool_inv
        refine hq _ ⟨?_, F4.keep, up_like u3 lk4 hL⟩
        obtain ⟨h5, t5, e5⟩ := l3
        obtain ⟨⟨h6, t6, e6⟩, _⟩ := lk4
        exact ⟨h6, t6, by rw [e6, e5]⟩
  · have fr₂ : FF (envOf nm (fscope (KK w) 305) L 305 cd :: l) s₂.heap := let ⟨_, F, _⟩ := hf₂.fr; (f.up u2).push F hf₂.kind
    refine wpAny_execs_cons (wpAny_Assign_Name (wpAny_IfExp (isTrue_call ?_)) rfl)
    refine eval_call (n := 12) (k := fun ds => ds = [dc, df]) (gok w) rfl rfl rfl (LoadsTo.ilt w) ⟨_, _, rfl, rfl⟩ ?_ R' hf₂ fun s₃ vs₃ ds₃ hds₃ ex₃ I₃ rv₃ => ?_
    · (conv => arg 5; whnf); (conv => arg 6; unfold GT)
      simp only [↓s_nil, ↓s_cons, ↓s_pass, ↓s_brk, ↓s_ret, ↓s_asg, ↓s_tup, ↓s_aug, ↓s_if, ↓s_assert, ↓asg_nil, ↓asg_cons, ↓e_int, ↓e_str, ↓e_bool, ↓e_name, ↓e_bin, ↓e_un, ↓e_bool2, ↓e_if, ↓e_cmp, ↓e_call, ↓e_bits, ↓e_sub, ↓e_tup, ↓t_not, ↓t_bool, ↓t_if, ↓t_cmp, ↓t_name, ↓t_call, ↓t_bin, ↓t_const, ↓t_sub, ↓es_nil, ↓es_cons, ↓b_one, ↓b_and, ↓b_or, ↓a_nil_and, ↓a_nil_or, ↓a_and, ↓a_or, ↓c_one, ↓c_more, ↓d_one, ↓d_more, ↓tupk_tup, ↓intk_int, ↓ksq_next, ↓ksq_ret, ↓ksq_brk, ↓ksq_cont, ↓kdf_ret, ↓kdf_next, ↓klp_next, ↓klp_cont, ↓klp_brk, ↓klp_ret, ↓vl_cons, ↓vl_nil, ↓vg_cons, ↓vl0_cons, ↓upk_nil, ↓upk_cons, ↓bv_add, ↓bv_sub, ↓bv_mul, ↓bv_fdiv, ↓bv_mod, ↓bv_shl, ↓bv_shr, ↓bv_and, ↓bv_xor, ↓bv_pow, ↓av_add, ↓av_sub, ↓av_mul, ↓av_shl, ↓av_shr, ↓av_xor, ↓cv_eq, ↓cv_ne, ↓cv_lt, ↓cv_le, ↓cv_gt, ↓cv_ge, ↓cv_str, ↓cv_tup, ↓cv_in, ↓cv_instr, ↓tr_bool, ↓tr_int, ↓uv_neg, ↓uv_not, ↓br_dec, ↓br_tt, ↓br_ff, ↓br_not, ↓sub2_0, ↓sub2_1, ↓sub4_0, ok_name, ok_call, isG_eq, isL_eq, gk_cons, lc_cons, kg, kl, ↓reduceIte, List.all_cons, List.all_nil, List.isEmpty_cons, nstar, nset, nslice, ncall, ncomp, Bool.and_true, Bool.true_and, Bool.not_false, Bool.not_true, and_true, true_and, ne_eq, not_true, not_false_eq_true, List.length_cons, List.length_nil, ite_not, beq_self_eq_true, decide_false, decide_true, Bool.false_eq_true, ↓String.reduceEq, ↓String.reduceNe, Int.reduceLT, Int.reduceLE, Int.reduceGT, Int.reduceGE, Int.reduceEq, Int.reduceNe, Int.reduceNeg, Int.reduceAdd, Int.reduceSub, Int.reduceMul, Int.reduceToNat, Nat.reduceLT, Nat.reduceLeDiff, Nat.reduceAdd, Nat.reduceMul, Nat.reduceEqDiff]
    subst hds₃
    have u3 := u2.trans (Heap.UpToSlots.of_keeps ex₃.2)
    refine ilt_raise w (Around.frames_deeper hst) (fr₂.up (Heap.UpToSlots.of_keeps ex₃.2)) (R'.mono (by omega)) I₃.here rv₃ (by omega) (by omega) hc hf s1 s2 s3 s4 w1 w2 fun e s₄ fly => ?_
    refine caught_type hst I₃ off fly (ld_ValueError w) rfl PySem.F.isExc_ValueError PySem.F.notTuple_ValueError PySem.F.self_ValueError fun s₅ x₅ I₅ => ?_
    refine wpAny_execs_cons (wpAny_Assign_Name (Constant_str (store_local (I₅.ext (ext_tok _ _)) rfl (.str _ _) fun s₆ I₆ lk₆ _ => ?_)) rfl)
    refine wpAny_execs_nil ?_
    dsimp only
    have u6 := up_like (u3.trans x₅.up) ((ext_tok s₅ _).like.trans lk₆) hL
    have l6 : ∃ h t, s₆ = { s with heap := h, toks := t } := by
      obtain ⟨h1, t1, e1⟩ := l2
      obtain ⟨h2, t2, e2⟩ := ex₃.1
      obtain ⟨h3, t3, e3⟩ := x₅.like
      obtain ⟨⟨h4, t4, e4⟩, _⟩ := lk₆
      exact ⟨h4, t4, by rw [e4, e3, e2, e1]⟩
    have I₆ := I₆.lks (ρ' := ([(Str.ofString "close", dc), (Str.ofString "first", df), (Str.ofString "num", .int num), (Str.ofString "den", .int den), (Str.ofString "n", .int n),
      (Str.ofString "la", .int la), (Str.ofString "lb", .int lb), (Str.ofString "ha", .int ha), (Str.ofString "hb", .int hb), (Str.ofString "fa", .int fa), (Str.ofString "fb", .int fb), (Str.ofString "ga", .int ga), (Str.ofString "gb", .int gb), (Str.ofString "want", .str (Str.ofString "refused")), (Str.ofString "got", .str (Str.ofString "refused"))] : Ev)) (fun y => by simp [up, ofs])
    refine wpAny_mono (wps_sound (n := 12) (gok w) _ _ (fun o => o = .ret (.bool true)) ?_ _ _ _ _ _ _ _ (fun fl s' => Q (match fl with | .ret v => v | _ => .none) s') R' I₆ fun f4 s4 o4 ho4 hf4 lk4 => ?_) (fun _ _ x => x) (fun _ _ x => x.elim)
    · (conv => arg 5; whnf); (conv => arg 6; unfold GT)
      simp only [↓s_nil, ↓s_cons, ↓s_pass, ↓s_brk, ↓s_ret, ↓s_asg, ↓s_tup, ↓s_aug, ↓s_if, ↓s_assert, ↓asg_nil, ↓asg_cons, ↓e_int, ↓e_str, ↓e_bool, ↓e_name, ↓e_bin, ↓e_un, ↓e_bool2, ↓e_if, ↓e_cmp, ↓e_call, ↓e_bits, ↓e_sub, ↓e_tup, ↓t_not, ↓t_bool, ↓t_if, ↓t_cmp, ↓t_name, ↓t_call, ↓t_bin, ↓t_const, ↓t_sub, ↓es_nil, ↓es_cons, ↓b_one, ↓b_and, ↓b_or, ↓a_nil_and, ↓a_nil_or, ↓a_and, ↓a_or, ↓c_one, ↓c_more, ↓d_one, ↓d_more, ↓tupk_tup, ↓intk_int, ↓ksq_next, ↓ksq_ret, ↓ksq_brk, ↓ksq_cont, ↓kdf_ret, ↓kdf_next, ↓klp_next, ↓klp_cont, ↓klp_brk, ↓klp_ret, ↓vl_cons, ↓vl_nil, ↓vg_cons, ↓vl0_cons, ↓upk_nil, ↓upk_cons, ↓bv_add, ↓bv_sub, ↓bv_mul, ↓bv_fdiv, ↓bv_mod, ↓bv_shl, ↓bv_shr, ↓bv_and, ↓bv_xor, ↓bv_pow, ↓av_add, ↓av_sub, ↓av_mul, ↓av_shl, ↓av_shr, ↓av_xor, ↓cv_eq, ↓cv_ne, ↓cv_lt, ↓cv_le, ↓cv_gt, ↓cv_ge, ↓cv_str, ↓cv_tup, ↓cv_in, ↓cv_instr, ↓tr_bool, ↓tr_int, ↓uv_neg, ↓uv_not, ↓br_dec, ↓br_tt, ↓br_ff, ↓br_not, ↓sub2_0, ↓sub2_1, ↓sub4_0, ok_name, ok_call, isG_eq, isL_eq, gk_cons, lc_cons, kg, kl, ↓reduceIte, List.all_cons, List.all_nil, List.isEmpty_cons, nstar, nset, nslice, ncall, ncomp, Bool.and_true, Bool.true_and, Bool.not_false, Bool.not_true, and_true, true_and, ne_eq, not_true, not_false_eq_true, List.length_cons, List.length_nil, ite_not, beq_self_eq_true, decide_false, decide_true, Bool.false_eq_true, ↓String.reduceEq, ↓String.reduceNe, Int.reduceLT, Int.reduceLE, Int.reduceGT, Int.reduceGE, Int.reduceEq, Int.reduceNe, Int.reduceNeg, Int.reduceAdd, Int.reduceSub, Int.reduceMul, Int.reduceToNat, Nat.reduceLT, Nat.reduceLeDiff, Nat.reduceAdd, Nat.reduceMul, Nat.reduceEqDiff, eq_self_iff_true]
    · subst ho4
      cases f4 <;> first | exact (hf4 : False).elim | skip
      obtain ⟨⟨m4, F4⟩, rv4⟩ := hf4
      obtain rfl := rv4.bool_inv
      refine hq _ ⟨?_, F4.keep, up_like u6 lk4 hL⟩
      obtain ⟨h5, t5, e5⟩ := l6
      obtain ⟨⟨h6, t6, e6⟩, _⟩ := lk4
      exact ⟨h6, t6, by rw [e6, e5]⟩
end Mine

end
section
open PySem PySem.W PyProof.Rows PySem.Calls
set_option maxRecDepth 100000
namespace Mine
theorem ld_ComplexResult (w : World) : LoadsTo (KK w) (Str.ofString "ComplexResult") (.ref 52) := .inl (by kernel_rfl)
theorem own_complex (w : World) {h : Heap} {mg : Str → Option Value} (X : (KK w).In h) (hg : h.Ns mainGlobals mg) : OwnCls (Str.ofString "ComplexResult") 52 [.type "ValueError", .type "Exception", .type "BaseException", .type "object"] "ValueError.__new__" mg h where
  bound := mg_of X hg (by kernel_rfl)
  obj := ⟨_, 51, _, _, _, _, _, _, _, _, _, _, _, _, _, _, _, X 52 _ rfl, .of_isNs (isNs_of_in X (by kernel_rfl)), nsMap_none_of_in X (by kernel_rfl) (by kernel_rfl), tail_of_in X (by kernel_rfl)⟩
theorem cls_complex (w : World) : ∀ h, (KK w).In h → ∃ nm' qn N bs bm hdct sn sub ab col dd k0 k1 k2 k3 k5, h.get? 52 = some (excClassObj nm' qn 52 N bs bm hdct sn sub ab col dd k0 k1 k2 k3 k5 "ValueError.__new__") ∧ bm.contains (.type "BaseException") = true :=
  fun h X => ⟨_, _, 51, _, _, _, _, _, _, _, _, _, _, _, _, _, X 52 _ rfl, by decide +kernel⟩
theorem sqrt_raise (w : World) {A : Around} {s : Shared} {vs : List Value} {l : List Env} {Q : Value → Shared → Prop} {E : Value → Shared → Prop} {m b : Nat} {e : Int} {p : Int}
    (hst : A.frames = some l) (f : FF l s.heap) (R : Rm 3 A) (g : Gd (KK w) s.heap) (r : RVs s.heap vs [fl 1 m e b, .int p, .str "f"])
    (hE : ∀ e s', Fly l e (.ref 52) s s' → E (.ref e) s') : wpAny (model PP w) A (call (.ref 232) vs) Q E s := by
  refine call_gen (d_mpf_sqrt w) rfl R g r fun s₁ L nm cd I x hL R' => ?_
  rw [← List.take_append_drop 1 (fbody _ _)]
  refine wps_then (gok w) (List.take 1 (fbody _ _)) _ (fun o => o = .next ([(Str.ofString "s", fl 1 m e b), (Str.ofString "prec", .int p), (Str.ofString "rnd", .str "f"), (Str.ofString "sign", .int 1), (Str.ofString "man", .int m), (Str.ofString "exp", .int e), (Str.ofString "bc", .int b)] : Ev)) ?_ _ _ _ _ _ _ _ _ _ _ R' I fun flw s₂ o ho hf lk => ?_
  · (conv => arg 7; arg 2; whnf)
    simp only [List.take_succ_cons, List.take_zero]
    (conv => arg 5; whnf); (conv => arg 8; simp only [List.cons_append, List.nil_append, List.zip_cons_cons, List.zip_nil_left, List.zip_nil_right, List.append_nil]); (conv => arg 6; unfold GT)
    unfold fl
    simp only [↓s_nil, ↓s_cons, ↓s_pass, ↓s_brk, ↓s_ret, ↓s_asg, ↓s_tup, ↓s_aug, ↓s_if, ↓s_assert, ↓asg_nil, ↓asg_cons, ↓e_int, ↓e_str, ↓e_bool, ↓e_name, ↓e_bin, ↓e_un, ↓e_bool2, ↓e_if, ↓e_cmp, ↓e_call, ↓e_bits, ↓e_sub, ↓e_tup, ↓t_not, ↓t_bool, ↓t_if, ↓t_cmp, ↓t_name, ↓t_call, ↓t_bin, ↓t_const, ↓t_sub, ↓es_nil, ↓es_cons, ↓b_one, ↓b_and, ↓b_or, ↓a_nil_and, ↓a_nil_or, ↓a_and, ↓a_or, ↓c_one, ↓c_more, ↓d_one, ↓d_more, ↓tupk_tup, ↓intk_int, ↓ksq_next, ↓ksq_ret, ↓ksq_brk, ↓ksq_cont, ↓kdf_ret, ↓kdf_next, ↓klp_next, ↓klp_cont, ↓klp_brk, ↓klp_ret, ↓vl_cons, ↓vl_nil, ↓vg_cons, ↓vl0_cons, ↓upk_nil, ↓upk_cons, ↓bv_add, ↓bv_sub, ↓bv_mul, ↓bv_fdiv, ↓bv_mod, ↓bv_shl, ↓bv_shr, ↓bv_and, ↓bv_xor, ↓bv_pow, ↓av_add, ↓av_sub, ↓av_mul, ↓av_shl, ↓av_shr, ↓av_xor, ↓cv_eq, ↓cv_ne, ↓cv_lt, ↓cv_le, ↓cv_gt, ↓cv_ge, ↓cv_str, ↓cv_tup, ↓cv_in, ↓cv_instr, ↓tr_bool, ↓tr_int, ↓uv_neg, ↓uv_not, ↓br_dec, ↓br_tt, ↓br_ff, ↓br_not, ↓sub2_0, ↓sub2_1, ↓sub4_0, ok_name, ok_call, isG_eq, isL_eq, gk_cons, lc_cons, kg, kl, ↓reduceIte, List.all_cons, List.all_nil, List.isEmpty_cons, nstar, nset, nslice, ncall, ncomp, Bool.and_true, Bool.true_and, Bool.not_false, Bool.not_true, and_true, true_and, ne_eq, not_true, not_false_eq_true, List.length_cons, List.length_nil, ite_not, beq_self_eq_true, decide_false, decide_true, Bool.false_eq_true, ↓String.reduceEq, ↓String.reduceNe, Int.reduceLT, Int.reduceLE, Int.reduceGT, Int.reduceGE, Int.reduceEq, Int.reduceNe, Int.reduceNeg, Int.reduceAdd, Int.reduceSub, Int.reduceMul, Int.reduceToNat, Nat.reduceLT, Nat.reduceLeDiff, Nat.reduceAdd, Nat.reduceMul, Nat.reduceEqDiff]
  · subst ho
    cases flw <;> first | exact (hf : False).elim | skip
    show wpAny _ _ (execs (List.drop 1 (fbody (KK w) 232)) _) _ _ _
    (conv => arg 3; arg 1; arg 2; whnf)
    simp only [List.drop_succ_cons, List.drop_zero]
    replace hf : Inn (KK w) s.heap L _ _ s₂ := hf
    refine wpAny_execs_cons (wpAny_If ?_)
    refine wpAny_mono (wpt_sound' (n := 2) (gok w) _ _ (fun c => c = true) ?_ _ _ _ _ _ _ _ (fun c s' => c = true ∧ Ext s₂ s') R' hf fun c s' hc ex => ⟨hc, ex⟩) (fun c s₃ x3 => ?_) fun _ _ x => x.elim
    · (conv => arg 5; whnf); (conv => arg 6; unfold GT)
      simp only [↓s_nil, ↓s_cons, ↓s_pass, ↓s_brk, ↓s_ret, ↓s_asg, ↓s_tup, ↓s_aug, ↓s_if, ↓s_assert, ↓asg_nil, ↓asg_cons, ↓e_int, ↓e_str, ↓e_bool, ↓e_name, ↓e_bin, ↓e_un, ↓e_bool2, ↓e_if, ↓e_cmp, ↓e_call, ↓e_bits, ↓e_sub, ↓e_tup, ↓t_not, ↓t_bool, ↓t_if, ↓t_cmp, ↓t_name, ↓t_call, ↓t_bin, ↓t_const, ↓t_sub, ↓es_nil, ↓es_cons, ↓b_one, ↓b_and, ↓b_or, ↓a_nil_and, ↓a_nil_or, ↓a_and, ↓a_or, ↓c_one, ↓c_more, ↓d_one, ↓d_more, ↓tupk_tup, ↓intk_int, ↓ksq_next, ↓ksq_ret, ↓ksq_brk, ↓ksq_cont, ↓kdf_ret, ↓kdf_next, ↓klp_next, ↓klp_cont, ↓klp_brk, ↓klp_ret, ↓vl_cons, ↓vl_nil, ↓vg_cons, ↓vl0_cons, ↓upk_nil, ↓upk_cons, ↓bv_add, ↓bv_sub, ↓bv_mul, ↓bv_fdiv, ↓bv_mod, ↓bv_shl, ↓bv_shr, ↓bv_and, ↓bv_xor, ↓bv_pow, ↓av_add, ↓av_sub, ↓av_mul, ↓av_shl, ↓av_shr, ↓av_xor, ↓cv_eq, ↓cv_ne, ↓cv_lt, ↓cv_le, ↓cv_gt, ↓cv_ge, ↓cv_str, ↓cv_tup, ↓cv_in, ↓cv_instr, ↓tr_bool, ↓tr_int, ↓uv_neg, ↓uv_not, ↓br_dec, ↓br_tt, ↓br_ff, ↓br_not, ↓sub2_0, ↓sub2_1, ↓sub4_0, ok_name, ok_call, isG_eq, isL_eq, gk_cons, lc_cons, kg, kl, ↓reduceIte, List.all_cons, List.all_nil, List.isEmpty_cons, nstar, nset, nslice, ncall, ncomp, Bool.and_true, Bool.true_and, Bool.not_false, Bool.not_true, and_true, true_and, ne_eq, not_true, not_false_eq_true, List.length_cons, List.length_nil, ite_not, beq_self_eq_true, decide_false, decide_true, Bool.false_eq_true, ↓String.reduceEq, ↓String.reduceNe, Int.reduceLT, Int.reduceLE, Int.reduceGT, Int.reduceGE, Int.reduceEq, Int.reduceNe, Int.reduceNeg, Int.reduceAdd, Int.reduceSub, Int.reduceMul, Int.reduceToNat, Nat.reduceLT, Nat.reduceLeDiff, Nat.reduceAdd, Nat.reduceMul, Nat.reduceEqDiff]
    · obtain ⟨rfl, ex3⟩ := x3
      have I3 := hf.ext ex3
      obtain ⟨m3, F3, _⟩ := I3.fr
      obtain ⟨mg, hg⟩ := g.g
      refine wpAny_execs_cons (Raise_own F3 hg (own_complex w g.x hg) PySem.F.excBase_ValueError R'.hh (PyProof.Rows.spliced_more (Constant_str (PyProof.Rows.spliced_none ⟨by show 1 ≤ sizeLine; decide +kernel, F3.keep, fun h' e hx => ?_⟩)) rfl) rfl rfl I3.kind)
      refine leave_made hst f hx F3 I3.kind fun h'' a0 fl up => hE _ _ ⟨⟨?_, fl.1, up⟩, a0, fl⟩
      obtain ⟨h1, t1, rfl⟩ := x.1
      obtain ⟨⟨h2, t2, rfl⟩, _⟩ := lk
      obtain ⟨h3, t3, rfl⟩ := ex3.1
      exact ⟨_, _, rfl⟩
theorem misqrt_raise (w : World) {A : Around} {s : Shared} {vs : List Value} {l : List Env} {Q : Value → Shared → Prop} {E : Value → Shared → Prop} {m b : Nat} {e : Int} {p : Int} {d' : D}
    (hst : A.frames = some l) (f : FF l s.heap) (R : Rm 4 A) (g : Gd (KK w) s.heap) (r : RVs s.heap vs [.tuple [fl 1 m e b, d'], .int p])
    (hE : ∀ e s', Fly l e (.ref 52) s s' → E (.ref e) s') : wpAny (model PP w) A (call (.ref 277) vs) Q E s := by
  refine call_gen (d_mpi_sqrt w) rfl R g r fun s₁ L nm cd I x hL R' => ?_
  rw [← List.take_append_drop 1 (fbody _ _)]
  refine wps_then (gok w) (List.take 1 (fbody _ _)) _ (fun o => o = .next ([(Str.ofString "s", .tuple [fl 1 m e b, d']), (Str.ofString "prec", .int p), (Str.ofString "sa", fl 1 m e b), (Str.ofString "sb", d')] : Ev)) ?_ _ _ _ _ _ _ _ _ _ _ R' I fun flw s₂ o ho hf lk => ?_
  · (conv => arg 7; arg 2; whnf)
    simp only [List.take_succ_cons, List.take_zero]
    (conv => arg 5; whnf); (conv => arg 8; simp only [List.cons_append, List.nil_append, List.zip_cons_cons, List.zip_nil_left, List.zip_nil_right, List.append_nil]); (conv => arg 6; unfold GT)
    simp only [↓s_nil, ↓s_cons, ↓s_pass, ↓s_brk, ↓s_ret, ↓s_asg, ↓s_tup, ↓s_aug, ↓s_if, ↓s_assert, ↓asg_nil, ↓asg_cons, ↓e_int, ↓e_str, ↓e_bool, ↓e_name, ↓e_bin, ↓e_un, ↓e_bool2, ↓e_if, ↓e_cmp, ↓e_call, ↓e_bits, ↓e_sub, ↓e_tup, ↓t_not, ↓t_bool, ↓t_if, ↓t_cmp, ↓t_name, ↓t_call, ↓t_bin, ↓t_const, ↓t_sub, ↓es_nil, ↓es_cons, ↓b_one, ↓b_and, ↓b_or, ↓a_nil_and, ↓a_nil_or, ↓a_and, ↓a_or, ↓c_one, ↓c_more, ↓d_one, ↓d_more, ↓tupk_tup, ↓intk_int, ↓ksq_next, ↓ksq_ret, ↓ksq_brk, ↓ksq_cont, ↓kdf_ret, ↓kdf_next, ↓klp_next, ↓klp_cont, ↓klp_brk, ↓klp_ret, ↓vl_cons, ↓vl_nil, ↓vg_cons, ↓vl0_cons, ↓upk_nil, ↓upk_cons, ↓bv_add, ↓bv_sub, ↓bv_mul, ↓bv_fdiv, ↓bv_mod, ↓bv_shl, ↓bv_shr, ↓bv_and, ↓bv_xor, ↓bv_pow, ↓av_add, ↓av_sub, ↓av_mul, ↓av_shl, ↓av_shr, ↓av_xor, ↓cv_eq, ↓cv_ne, ↓cv_lt, ↓cv_le, ↓cv_gt, ↓cv_ge, ↓cv_str, ↓cv_tup, ↓cv_in, ↓cv_instr, ↓tr_bool, ↓tr_int, ↓uv_neg, ↓uv_not, ↓br_dec, ↓br_tt, ↓br_ff, ↓br_not, ↓sub2_0, ↓sub2_1, ↓sub4_0, ok_name, ok_call, isG_eq, isL_eq, gk_cons, lc_cons, kg, kl, ↓reduceIte, List.all_cons, List.all_nil, List.isEmpty_cons, nstar, nset, nslice, ncall, ncomp, Bool.and_true, Bool.true_and, Bool.not_false, Bool.not_true, and_true, true_and, ne_eq, not_true, not_false_eq_true, List.length_cons, List.length_nil, ite_not, beq_self_eq_true, decide_false, decide_true, Bool.false_eq_true, ↓String.reduceEq, ↓String.reduceNe, Int.reduceLT, Int.reduceLE, Int.reduceGT, Int.reduceGE, Int.reduceEq, Int.reduceNe, Int.reduceNeg, Int.reduceAdd, Int.reduceSub, Int.reduceMul, Int.reduceToNat, Nat.reduceLT, Nat.reduceLeDiff, Nat.reduceAdd, Nat.reduceMul, Nat.reduceEqDiff]
  · subst ho
    cases flw <;> first | exact (hf : False).elim | skip
    show wpAny _ _ (execs (List.drop 1 (fbody (KK w) 277)) _) _ _ _
    (conv => arg 3; arg 1; arg 2; whnf)
    simp only [List.drop_succ_cons, List.drop_zero]
    replace hf : Inn (KK w) s.heap L _ _ s₂ := hf
    have u2 : FF (envOf nm (fscope (KK w) 277) L 277 cd :: l) s₂.heap := let ⟨_, F, _⟩ := hf.fr; (f.up (Heap.UpToSlots.of_keeps F.keep)).push F hf.kind
    refine wpAny_execs_cons (wpAny_Assign_Name ?_ rfl)
    refine eval_call (n := 3) (k := fun ds => ds = [fl 1 m e b, .int p, .str "f"]) (gok w) rfl rfl rfl (.inl (d_mpf_sqrt w).at') ⟨_, _, rfl, rfl⟩ ?_ R' hf fun s₃ vs₃ ds₃ hds₃ ex₃ I₃ rv₃ => ?_
    · (conv => arg 5; whnf); (conv => arg 6; unfold GT)
      simp only [↓s_nil, ↓s_cons, ↓s_pass, ↓s_brk, ↓s_ret, ↓s_asg, ↓s_tup, ↓s_aug, ↓s_if, ↓s_assert, ↓asg_nil, ↓asg_cons, ↓e_int, ↓e_str, ↓e_bool, ↓e_name, ↓e_bin, ↓e_un, ↓e_bool2, ↓e_if, ↓e_cmp, ↓e_call, ↓e_bits, ↓e_sub, ↓e_tup, ↓t_not, ↓t_bool, ↓t_if, ↓t_cmp, ↓t_name, ↓t_call, ↓t_bin, ↓t_const, ↓t_sub, ↓es_nil, ↓es_cons, ↓b_one, ↓b_and, ↓b_or, ↓a_nil_and, ↓a_nil_or, ↓a_and, ↓a_or, ↓c_one, ↓c_more, ↓d_one, ↓d_more, ↓tupk_tup, ↓intk_int, ↓ksq_next, ↓ksq_ret, ↓ksq_brk, ↓ksq_cont, ↓kdf_ret, ↓kdf_next, ↓klp_next, ↓klp_cont, ↓klp_brk, ↓klp_ret, ↓vl_cons, ↓vl_nil, ↓vg_cons, ↓vl0_cons, ↓upk_nil, ↓upk_cons, ↓bv_add, ↓bv_sub, ↓bv_mul, ↓bv_fdiv, ↓bv_mod, ↓bv_shl, ↓bv_shr, ↓bv_and, ↓bv_xor, ↓bv_pow, ↓av_add, ↓av_sub, ↓av_mul, ↓av_shl, ↓av_shr, ↓av_xor, ↓cv_eq, ↓cv_ne, ↓cv_lt, ↓cv_le, ↓cv_gt, ↓cv_ge, ↓cv_str, ↓cv_tup, ↓cv_in, ↓cv_instr, ↓tr_bool, ↓tr_int, ↓uv_neg, ↓uv_not, ↓br_dec, ↓br_tt, ↓br_ff, ↓br_not, ↓sub2_0, ↓sub2_1, ↓sub4_0, ok_name, ok_call, isG_eq, isL_eq, gk_cons, lc_cons, kg, kl, ↓reduceIte, List.all_cons, List.all_nil, List.isEmpty_cons, nstar, nset, nslice, ncall, ncomp, Bool.and_true, Bool.true_and, Bool.not_false, Bool.not_true, and_true, true_and, ne_eq, not_true, not_false_eq_true, List.length_cons, List.length_nil, ite_not, beq_self_eq_true, decide_false, decide_true, Bool.false_eq_true, ↓String.reduceEq, ↓String.reduceNe, Int.reduceLT, Int.reduceLE, Int.reduceGT, Int.reduceGE, Int.reduceEq, Int.reduceNe, Int.reduceNeg, Int.reduceAdd, Int.reduceSub, Int.reduceMul, Int.reduceToNat, Nat.reduceLT, Nat.reduceLeDiff, Nat.reduceAdd, Nat.reduceMul, Nat.reduceEqDiff]
    subst hds₃
    refine sqrt_raise w (Around.frames_deeper hst) (u2.up (Heap.UpToSlots.of_keeps ex₃.2)) R' I₃.here rv₃ fun ea s₄ fly => ?_
    obtain ⟨m3, F3, _⟩ := I₃.fr
    refine leave_pass hst F3 fly fun h' a0 fl up => hE _ _ ⟨⟨?_, fl.1, up⟩, a0, fl⟩
    obtain ⟨h1, t1, rfl⟩ := x.1
    obtain ⟨⟨h2, t2, rfl⟩, _⟩ := lk
    obtain ⟨h3, t3, rfl⟩ := ex₃.1
    obtain ⟨h4, t4, rfl⟩ := fly.1.like
    exact ⟨_, _, rfl⟩
end Mine

end
section
open PySem PySem.W PyProof.Rows PySem.Calls
set_option maxRecDepth 100000
namespace Mine
theorem known_len (w : World) : Known (KK w) (Str.ofString "len") := known_b (id := "len") rfl (by decide) (by decide +kernel)
theorem len_spec (w : World) {a : Addr} {is : List D} (h : is.length < 1000) : Spec PP w (KK w) 0 "len" [lat a is] (· = .int is.length) :=
  spec_b (id := "len") rfl (by decide) (by decide +kernel) fun A s vs Q R r q => by
    obtain ⟨v, rfl, r1⟩ := rvs1 r
    obtain ⟨rfl, vs, pl, rvs⟩ := lat_inv r1
    have hz : vs.size = is.length := by have := rvs.length; simpa using this
    exact call_len_list pl.isList (by omega) (q _ _ _ rfl (by rw [hz]; exact .int _ _) ⟨⟨s.heap, _, rfl⟩, Kp.refl _⟩)
theorem IsF.pos {N q : Nat} {d : D} (hN : 0 < N) (h : IsF 0 N 0 d) (hb : bl N ≤ q) : Pos q N d := by
  obtain ⟨m, t, e, ho, rfl⟩ := h
  have hm : 0 < m := by omega
  have : bl N = bl m + t := by rw [e]; exact bl_shift hm
  refine ⟨m, 0 + t, ⟨rfl, ho, by omega⟩, ?_⟩
  rw [liftn, ← e, pw_zero]; grind
/-- a whole number as an interval -/
def PtF (N : Nat) (d : D) : Prop := ∃ a b, d = .tuple [a, b] ∧ IsF 0 N 0 a ∧ IsF 0 N 0 b
theorem PtF.pi {N q : Nat} {d : D} (hN : 0 < N) (h : PtF N d) (hb : bl N ≤ q) : PI q N N d := by
  obtain ⟨a, b, rfl, ha, hb'⟩ := h
  exact ⟨a, b, rfl, ha.pos hN hb, hb'.pos hN hb⟩
theorem known_point (w : World) : Known (KK w) (Str.ofString "_law_point") := (d_ulaw_point w).known
theorem point_spec (w : World) {N : Nat} (hN : 0 < N) : Spec PP w (KK w) 4 "_law_point" [.int N] (PtF N) := by
  (refine spec_defk (gok _) (d_ulaw_point w) ?_; (conv => arg 7; whnf); (conv => arg 5; whnf); (conv => arg 8; simp only [List.cons_append, List.nil_append, List.zip_cons_cons, List.zip_nil_left, List.zip_nil_right, List.append_nil]); (conv => arg 6; unfold GT))
  simp only [↓s_nil, ↓s_cons, ↓s_pass, ↓s_brk, ↓s_ret, ↓s_asg, ↓s_tup, ↓s_aug, ↓s_if, ↓s_assert, ↓asg_nil, ↓asg_cons, ↓e_int, ↓e_str, ↓e_bool, ↓e_name, ↓e_bin, ↓e_un, ↓e_bool2, ↓e_if, ↓e_cmp, ↓e_call, ↓e_bits, ↓e_sub, ↓e_tup, ↓t_not, ↓t_bool, ↓t_if, ↓t_cmp, ↓t_name, ↓t_call, ↓t_bin, ↓t_const, ↓t_sub, ↓es_nil, ↓es_cons, ↓b_one, ↓b_and, ↓b_or, ↓a_nil_and, ↓a_nil_or, ↓a_and, ↓a_or, ↓c_one, ↓c_more, ↓d_one, ↓d_more, ↓tupk_tup, ↓intk_int, ↓ksq_next, ↓ksq_ret, ↓ksq_brk, ↓ksq_cont, ↓kdf_ret, ↓kdf_next, ↓klp_next, ↓klp_cont, ↓klp_brk, ↓klp_ret, ↓vl_cons, ↓vl_nil, ↓vg_cons, ↓vl0_cons, ↓upk_nil, ↓upk_cons, ↓bv_add, ↓bv_sub, ↓bv_mul, ↓bv_fdiv, ↓bv_mod, ↓bv_shl, ↓bv_shr, ↓bv_and, ↓bv_xor, ↓bv_pow, ↓av_add, ↓av_sub, ↓av_mul, ↓av_shl, ↓av_shr, ↓av_xor, ↓cv_eq, ↓cv_ne, ↓cv_lt, ↓cv_le, ↓cv_gt, ↓cv_ge, ↓cv_str, ↓cv_tup, ↓cv_in, ↓cv_instr, ↓tr_bool, ↓tr_int, ↓uv_neg, ↓uv_not, ↓br_dec, ↓br_tt, ↓br_ff, ↓br_not, ↓sub2_0, ↓sub2_1, ↓sub4_0, ok_name, ok_call, isG_eq, isL_eq, gk_cons, lc_cons, kg, kl, ↓reduceIte, List.all_cons, List.all_nil, List.isEmpty_cons, nstar, nset, nslice, ncall, ncomp, Bool.and_true, Bool.true_and, Bool.not_false, Bool.not_true, and_true, true_and, ne_eq, not_true, not_false_eq_true, List.length_cons, List.length_nil, ite_not, beq_self_eq_true, decide_false, decide_true, Bool.false_eq_true, ↓String.reduceEq, ↓String.reduceNe, Int.reduceLT, Int.reduceLE, Int.reduceGT, Int.reduceGE, Int.reduceEq, Int.reduceNe, Int.reduceNeg, Int.reduceAdd, Int.reduceSub, Int.reduceMul, Int.reduceToNat, Nat.reduceLT, Nat.reduceLeDiff, Nat.reduceAdd, Nat.reduceMul, Nat.reduceEqDiff]
  refine ⟨known_from_int w, (from_int_pos w hN).mono fun x hx => ?_⟩
  refine ⟨known_from_int w, (from_int_pos w hN).mono fun y hy => ?_⟩
  exact ⟨x, y, rfl, hx, hy⟩
/-- values of ordinary size -/
theorem sz_of {v : Rat} (h1 : pw (-1000) ≤ v) (h2 : v ≤ pw 1000) : Sz v := ⟨by have := pw_mono (show (-10000 : Int) ≤ -1000 by decide); grind, by have := pw_mono (show (1000 : Int) ≤ 10000 by decide); grind⟩
theorem one_ge {v : Rat} (h : 1 ≤ v) : pw (-1000) ≤ v := by have := pw_mono (show (-1000 : Int) ≤ 0 by decide); rw [pw_zero] at this; grind
theorem nat_pw {N k : Nat} {q : Int} (h : bl N ≤ k) (hk : (k : Int) ≤ q) : (N : Rat) ≤ pw q := by
  have a : (N : Rat) ≤ ((2 ^ k : Nat) : Rat) := by exact_mod_cast Nat.le_of_lt (bl_le.mp h)
  rw [← pw_nat] at a
  have := pw_mono hk; grind
theorem nat_ge1 {N : Nat} (h : 0 < N) : (1 : Rat) ≤ N := by exact_mod_cast h
theorem pw_up {v : Rat} {a b : Int} (h : v ≤ pw a) (hab : a ≤ b) : v ≤ pw b := by have := pw_mono hab; grind
/-- the float of a difference of whole numbers, read off -/
theorem exf_int {sg : Int} {z : Nat} {d : D} (h : ExF sg z d) (hz : 0 < z) : IsF sg z 0 d := by
  obtain ⟨M, E, P, ⟨rfl, ho, _⟩, hv⟩ := h
  rcases (by omega : 0 ≤ E ∨ E < 0) with q | q
  · refine ⟨M, E.toNat, ?_, ho, ?_⟩
    · have e : (M : Rat) * pw E = ((M * 2 ^ E.toNat : Nat) : Rat) * pw 0 := by rw [← liftn]; congr 2; omega
      have e2 : (z : Rat) = (z : Rat) * pw 0 := by rw [pw_zero]; grind
      rw [hv, e2] at e
      exact cqe e
    · congr 1; omega
  · exfalso
    have e2 : (z : Rat) = ((z * 2 ^ (-E).toNat : Nat) : Rat) * pw E := by
      have : (z : Rat) = (z : Rat) * pw 0 := by rw [pw_zero]; grind
      rw [this, lift (q := E) (by omega), show (0 - E).toNat = (-E).toNat by omega]
    rw [e2] at hv
    have := cqe hv
    obtain ⟨j, hj⟩ : ∃ j, (-E).toNat = j + 1 := ⟨(-E).toNat - 1, by omega⟩
    rw [hj, Nat.pow_succ, ← Nat.mul_assoc] at this
    omega
theorem norm_int (w : World) {a b : Nat} {d : D} (h : Diff (ExF 0) (ExF 1) a b d) (ha : bl a ≤ 3000) (hb : bl b ≤ 3000) : Spec PP w (KK w) 1 "to_int" [d] (· = .int ((a : Int) - b)) := by
  rcases h with ⟨e, rfl⟩ | ⟨lt, h⟩ | ⟨lt, h⟩
  · have : a = b := by exact_mod_cast e
    subst this
    exact (to_int_spec w (z := 0) (.inl ⟨rfl, rfl⟩) (by rw [bl_zero]; omega)).mono fun d hd => by rw [hd]; congr 1; omega
  · have hlt : b < a := by exact_mod_cast lt
    have e : (a : Rat) - b = ((a - b : Nat) : Rat) := csub (by omega)
    rw [e] at h
    refine (to_int_spec w (z := a - b) (.inr ⟨by omega, exf_int h (by omega)⟩) (Nat.le_trans (bl_mono (Nat.sub_le a b)) (by omega))).mono fun d hd => by rw [hd]; congr 1; omega
  · have hlt : a < b := by exact_mod_cast lt
    have e : (b : Rat) - a = ((b - a : Nat) : Rat) := csub (by omega)
    rw [e] at h
    refine (to_int_neg w (z := b - a) (by omega) (exf_int h (by omega)) (Nat.le_trans (bl_mono (Nat.sub_le b a)) (by omega))).mono fun d hd => by rw [hd]; congr 1; omega
/-- the body of the loop that the reader runs -/
def wbody (l : List Stmt) (i : Nat) : List Stmt := match l[i]? with
  | some (.While _ b _ _) => b
  | some (.For _ _ b _ _) => b
  | _ => []
def HEnv (n p : Nat) (sure : Int) (whole m d turned : Nat) (af : Addr) (is : List D) (num den en ed : Nat) (df dx : D) (more : Ev) : Ev :=
  (Str.ofString "n", .int n) :: (Str.ofString "p", .int p) :: (Str.ofString "sure", .int sure) :: (Str.ofString "whole", .int whole) :: (Str.ofString "m", .int m) :: (Str.ofString "d", .int d) :: (Str.ofString "turned", .int turned) :: (Str.ofString "figures", lat af is) ::
  (Str.ofString "num", .int num) :: (Str.ofString "den", .int den) :: (Str.ofString "elder_num", .int en) :: (Str.ofString "elder_den", .int ed) :: (Str.ofString "first", df) :: (Str.ofString "x", dx) :: more
theorem seg1 (w : World) {n whole p : Nat} {sure : Int} {k m d num en den ed : Nat} {lo hi : Rat} {turned : Nat} {af : Addr} {is : List D} {df dx : D} (P : Par n whole p sure) (R : RS n whole p sure k m d num en den ed lo hi) (hx : PI p lo hi dx) :
    wps PP w (KK w) 13 (fscope (KK w) 312) GT (List.take 5 (wbody (fbody (KK w) 312) 5)) (HEnv n p sure whole m d turned af is num den en ed df dx []) (fun o =>
      (∃ zl zh : Nat, zl ≠ zh ∧ (zl : Rat) ≤ lo ∧ lo < (zl : Rat) + 1 ∧ (zh : Rat) ≤ hi ∧ hi < (zh : Rat) + 1 ∧ o = .brk (HEnv n p sure whole m d turned af is num den en ed df dx [(Str.ofString "low", .int zl), (Str.ofString "high", .int zh)])) ∨
      (∃ z : Nat, z = (whole + m) / d ∧ (z : Rat) ≤ lo ∧ lo < (z : Rat) + 1 ∧ (z : Rat) ≤ hi ∧ hi < (z : Rat) + 1 ∧ o = .next (HEnv n p sure whole m d turned af is num den en ed df dx [(Str.ofString "low", .int z), (Str.ofString "high", .int z), (Str.ofString "a", .int z)]))) := by
  have hd := R.fs.d1
  have wB := P.wholeB
  have bm : bl m ≤ 60 := bl_le.mpr (by have := R.fs.mw; omega)
  have bd : bl d ≤ 60 := bl_le.mpr (by have := R.fs.mw; have := R.fs.dw; omega)
  have bn : bl n ≤ 100 := bl_le.mpr P.n2
  have p119 := P.p119
  have q1 := one_ge R.l1
  have q2 := pw_up R.l2 (show (200 : Int) ≤ 1000 by decide)
  have q3 := one_ge R.h1
  have q4 := pw_up R.h2 (show (200 : Int) ≤ 1000 by decide)
  have LH := lholds_spec w (show p ≤ 200 by omega) hx q1 q2 q3 q4 (show bl m ≤ 200 by omega) (show bl d ≤ 200 by omega) (show bl n ≤ 200 by omega) R.cut
  obtain ⟨xa, xb, rfl, pa, pb⟩ := hx
  have zB : ∀ {z : Nat} {v : Rat}, (z : Rat) ≤ v → v ≤ pw 200 → bl z ≤ 100000 := fun {z v} h1 h2 => by
    have : (z : Rat) ≤ ((2 ^ 200 : Nat) : Rat) := by
      have e := pw_nat 200
      rw [← e]; have : pw ((200 : Nat) : Int) = pw 200 := rfl
      rw [this]; grind
    have : z ≤ 2 ^ 200 := by exact_mod_cast this
    refine bl_le.mpr (Nat.lt_of_le_of_lt this ?_)
    exact Nat.pow_lt_pow_right (by decide) (by decide)
  have log : ((d : Int)).natAbs.log2 < 9000 := Nat.lt_of_lt_of_le (log2_lt_of_bl bd) (by omega)
  have zd : ((d : Int) = 0) = False := eq_false (by omega)
  unfold HEnv
  (conv => arg 7; arg 2; whnf)
  simp only [List.take_succ_cons, List.take_zero]
  (conv => arg 5; whnf); (conv => arg 6; unfold GT)
  simp only [↓s_nil, ↓s_cons, ↓s_pass, ↓s_brk, ↓s_ret, ↓s_asg, ↓s_tup, ↓s_aug, ↓s_if, ↓s_assert, ↓asg_nil, ↓asg_cons, ↓e_int, ↓e_str, ↓e_bool, ↓e_name, ↓e_bin, ↓e_un, ↓e_bool2, ↓e_if, ↓e_cmp, ↓e_call, ↓e_bits, ↓e_sub, ↓e_tup, ↓t_not, ↓t_bool, ↓t_if, ↓t_cmp, ↓t_name, ↓t_call, ↓t_bin, ↓t_const, ↓t_sub, ↓es_nil, ↓es_cons, ↓b_one, ↓b_and, ↓b_or, ↓a_nil_and, ↓a_nil_or, ↓a_and, ↓a_or, ↓c_one, ↓c_more, ↓d_one, ↓d_more, ↓tupk_tup, ↓intk_int, ↓ksq_next, ↓ksq_ret, ↓ksq_brk, ↓ksq_cont, ↓kdf_ret, ↓kdf_next, ↓klp_next, ↓klp_cont, ↓klp_brk, ↓klp_ret, ↓vl_cons, ↓vl_nil, ↓vg_cons, ↓vl0_cons, ↓upk_nil, ↓upk_cons, ↓bv_add, ↓bv_sub, ↓bv_mul, ↓bv_fdiv, ↓bv_mod, ↓bv_shl, ↓bv_shr, ↓bv_and, ↓bv_xor, ↓bv_pow, ↓av_add, ↓av_sub, ↓av_mul, ↓av_shl, ↓av_shr, ↓av_xor, ↓cv_eq, ↓cv_ne, ↓cv_lt, ↓cv_le, ↓cv_gt, ↓cv_ge, ↓cv_str, ↓cv_tup, ↓cv_in, ↓cv_instr, ↓tr_bool, ↓tr_int, ↓uv_neg, ↓uv_not, ↓br_dec, ↓br_tt, ↓br_ff, ↓br_not, ↓sub2_0, ↓sub2_1, ↓sub4_0, ok_name, ok_call, isG_eq, isL_eq, gk_cons, lc_cons, kg, kl, ↓reduceIte, List.all_cons, List.all_nil, List.isEmpty_cons, nstar, nset, nslice, ncall, ncomp, Bool.and_true, Bool.true_and, Bool.not_false, Bool.not_true, and_true, true_and, ne_eq, not_true, not_false_eq_true, List.length_cons, List.length_nil, ite_not, beq_self_eq_true, decide_false, decide_true, Bool.false_eq_true, ↓String.reduceEq, ↓String.reduceNe, Int.reduceLT, Int.reduceLE, Int.reduceGT, Int.reduceGE, Int.reduceEq, Int.reduceNe, Int.reduceNeg, Int.reduceAdd, Int.reduceSub, Int.reduceMul, Int.reduceToNat, Nat.reduceLT, Nat.reduceLeDiff, Nat.reduceAdd, Nat.reduceMul, Nat.reduceEqDiff]
  refine ⟨known_lholds w, LH.mono fun y hy => ?_⟩
  subst hy
  simp only [↓s_nil, ↓s_cons, ↓s_pass, ↓s_brk, ↓s_ret, ↓s_asg, ↓s_tup, ↓s_aug, ↓s_if, ↓s_assert, ↓asg_nil, ↓asg_cons, ↓e_int, ↓e_str, ↓e_bool, ↓e_name, ↓e_bin, ↓e_un, ↓e_bool2, ↓e_if, ↓e_cmp, ↓e_call, ↓e_bits, ↓e_sub, ↓e_tup, ↓t_not, ↓t_bool, ↓t_if, ↓t_cmp, ↓t_name, ↓t_call, ↓t_bin, ↓t_const, ↓t_sub, ↓es_nil, ↓es_cons, ↓b_one, ↓b_and, ↓b_or, ↓a_nil_and, ↓a_nil_or, ↓a_and, ↓a_or, ↓c_one, ↓c_more, ↓d_one, ↓d_more, ↓tupk_tup, ↓intk_int, ↓ksq_next, ↓ksq_ret, ↓ksq_brk, ↓ksq_cont, ↓kdf_ret, ↓kdf_next, ↓klp_next, ↓klp_cont, ↓klp_brk, ↓klp_ret, ↓vl_cons, ↓vl_nil, ↓vg_cons, ↓vl0_cons, ↓upk_nil, ↓upk_cons, ↓bv_add, ↓bv_sub, ↓bv_mul, ↓bv_fdiv, ↓bv_mod, ↓bv_shl, ↓bv_shr, ↓bv_and, ↓bv_xor, ↓bv_pow, ↓av_add, ↓av_sub, ↓av_mul, ↓av_shl, ↓av_shr, ↓av_xor, ↓cv_eq, ↓cv_ne, ↓cv_lt, ↓cv_le, ↓cv_gt, ↓cv_ge, ↓cv_str, ↓cv_tup, ↓cv_in, ↓cv_instr, ↓tr_bool, ↓tr_int, ↓uv_neg, ↓uv_not, ↓br_dec, ↓br_tt, ↓br_ff, ↓br_not, ↓sub2_0, ↓sub2_1, ↓sub4_0, ok_name, ok_call, isG_eq, isL_eq, gk_cons, lc_cons, kg, kl, ↓reduceIte, List.all_cons, List.all_nil, List.isEmpty_cons, nstar, nset, nslice, ncall, ncomp, Bool.and_true, Bool.true_and, Bool.not_false, Bool.not_true, and_true, true_and, ne_eq, not_true, not_false_eq_true, List.length_cons, List.length_nil, ite_not, beq_self_eq_true, decide_false, decide_true, Bool.false_eq_true, ↓String.reduceEq, ↓String.reduceNe, Int.reduceLT, Int.reduceLE, Int.reduceGT, Int.reduceGE, Int.reduceEq, Int.reduceNe, Int.reduceNeg, Int.reduceAdd, Int.reduceSub, Int.reduceMul, Int.reduceToNat, Nat.reduceLT, Nat.reduceLeDiff, Nat.reduceAdd, Nat.reduceMul, Nat.reduceEqDiff]
  refine ⟨by decide +kernel, known_to_int w, known_floor w, (floor_spec w pa).mono fun y hy => ?_⟩
  obtain ⟨zl, l1, l2, hz⟩ := hy
  refine (to_int_spec w hz (zB l1 R.l2)).mono fun y hy => ?_
  subst hy
  simp only [↓s_nil, ↓s_cons, ↓s_pass, ↓s_brk, ↓s_ret, ↓s_asg, ↓s_tup, ↓s_aug, ↓s_if, ↓s_assert, ↓asg_nil, ↓asg_cons, ↓e_int, ↓e_str, ↓e_bool, ↓e_name, ↓e_bin, ↓e_un, ↓e_bool2, ↓e_if, ↓e_cmp, ↓e_call, ↓e_bits, ↓e_sub, ↓e_tup, ↓t_not, ↓t_bool, ↓t_if, ↓t_cmp, ↓t_name, ↓t_call, ↓t_bin, ↓t_const, ↓t_sub, ↓es_nil, ↓es_cons, ↓b_one, ↓b_and, ↓b_or, ↓a_nil_and, ↓a_nil_or, ↓a_and, ↓a_or, ↓c_one, ↓c_more, ↓d_one, ↓d_more, ↓tupk_tup, ↓intk_int, ↓ksq_next, ↓ksq_ret, ↓ksq_brk, ↓ksq_cont, ↓kdf_ret, ↓kdf_next, ↓klp_next, ↓klp_cont, ↓klp_brk, ↓klp_ret, ↓vl_cons, ↓vl_nil, ↓vg_cons, ↓vl0_cons, ↓upk_nil, ↓upk_cons, ↓bv_add, ↓bv_sub, ↓bv_mul, ↓bv_fdiv, ↓bv_mod, ↓bv_shl, ↓bv_shr, ↓bv_and, ↓bv_xor, ↓bv_pow, ↓av_add, ↓av_sub, ↓av_mul, ↓av_shl, ↓av_shr, ↓av_xor, ↓cv_eq, ↓cv_ne, ↓cv_lt, ↓cv_le, ↓cv_gt, ↓cv_ge, ↓cv_str, ↓cv_tup, ↓cv_in, ↓cv_instr, ↓tr_bool, ↓tr_int, ↓uv_neg, ↓uv_not, ↓br_dec, ↓br_tt, ↓br_ff, ↓br_not, ↓sub2_0, ↓sub2_1, ↓sub4_0, ok_name, ok_call, isG_eq, isL_eq, gk_cons, lc_cons, kg, kl, ↓reduceIte, List.all_cons, List.all_nil, List.isEmpty_cons, nstar, nset, nslice, ncall, ncomp, Bool.and_true, Bool.true_and, Bool.not_false, Bool.not_true, and_true, true_and, ne_eq, not_true, not_false_eq_true, List.length_cons, List.length_nil, ite_not, beq_self_eq_true, decide_false, decide_true, Bool.false_eq_true, ↓String.reduceEq, ↓String.reduceNe, Int.reduceLT, Int.reduceLE, Int.reduceGT, Int.reduceGE, Int.reduceEq, Int.reduceNe, Int.reduceNeg, Int.reduceAdd, Int.reduceSub, Int.reduceMul, Int.reduceToNat, Nat.reduceLT, Nat.reduceLeDiff, Nat.reduceAdd, Nat.reduceMul, Nat.reduceEqDiff]
  refine ⟨known_to_int w, known_floor w, (floor_spec w pb).mono fun y hy => ?_⟩
  obtain ⟨zh, h1, h2, hz'⟩ := hy
  refine (to_int_spec w hz' (zB h1 R.h2)).mono fun y hy => ?_
  subst hy
  simp only [↓s_nil, ↓s_cons, ↓s_pass, ↓s_brk, ↓s_ret, ↓s_asg, ↓s_tup, ↓s_aug, ↓s_if, ↓s_assert, ↓asg_nil, ↓asg_cons, ↓e_int, ↓e_str, ↓e_bool, ↓e_name, ↓e_bin, ↓e_un, ↓e_bool2, ↓e_if, ↓e_cmp, ↓e_call, ↓e_bits, ↓e_sub, ↓e_tup, ↓t_not, ↓t_bool, ↓t_if, ↓t_cmp, ↓t_name, ↓t_call, ↓t_bin, ↓t_const, ↓t_sub, ↓es_nil, ↓es_cons, ↓b_one, ↓b_and, ↓b_or, ↓a_nil_and, ↓a_nil_or, ↓a_and, ↓a_or, ↓c_one, ↓c_more, ↓d_one, ↓d_more, ↓tupk_tup, ↓intk_int, ↓ksq_next, ↓ksq_ret, ↓ksq_brk, ↓ksq_cont, ↓kdf_ret, ↓kdf_next, ↓klp_next, ↓klp_cont, ↓klp_brk, ↓klp_ret, ↓vl_cons, ↓vl_nil, ↓vg_cons, ↓vl0_cons, ↓upk_nil, ↓upk_cons, ↓bv_add, ↓bv_sub, ↓bv_mul, ↓bv_fdiv, ↓bv_mod, ↓bv_shl, ↓bv_shr, ↓bv_and, ↓bv_xor, ↓bv_pow, ↓av_add, ↓av_sub, ↓av_mul, ↓av_shl, ↓av_shr, ↓av_xor, ↓cv_eq, ↓cv_ne, ↓cv_lt, ↓cv_le, ↓cv_gt, ↓cv_ge, ↓cv_str, ↓cv_tup, ↓cv_in, ↓cv_instr, ↓tr_bool, ↓tr_int, ↓uv_neg, ↓uv_not, ↓br_dec, ↓br_tt, ↓br_ff, ↓br_not, ↓sub2_0, ↓sub2_1, ↓sub4_0, ok_name, ok_call, isG_eq, isL_eq, gk_cons, lc_cons, kg, kl, ↓reduceIte, List.all_cons, List.all_nil, List.isEmpty_cons, nstar, nset, nslice, ncall, ncomp, Bool.and_true, Bool.true_and, Bool.not_false, Bool.not_true, and_true, true_and, ne_eq, not_true, not_false_eq_true, List.length_cons, List.length_nil, ite_not, beq_self_eq_true, decide_false, decide_true, Bool.false_eq_true, ↓String.reduceEq, ↓String.reduceNe, Int.reduceLT, Int.reduceLE, Int.reduceGT, Int.reduceGE, Int.reduceEq, Int.reduceNe, Int.reduceNeg, Int.reduceAdd, Int.reduceSub, Int.reduceMul, Int.reduceToNat, Nat.reduceLT, Nat.reduceLeDiff, Nat.reduceAdd, Nat.reduceMul, Nat.reduceEqDiff, zd, if_false]
  have ca : ((whole : Int) + m).fdiv d = (((whole + m) / d : Nat) : Int) := by
    rw [show (whole : Int) + m = ((whole + m : Nat) : Int) by omega, fdiv_nat]
  rw [ca]
  split
  · rename_i heq
    have e : zl = zh := by omega
    subst e
    have ef := figure P.w1 P.w2 hd R.cut l1 h2
    refine ⟨log, ?_⟩
    rw [if_pos (by rw [ef])]
    exact .inr ⟨zl, ef, l1, l2, h1, h2, by rw [← ef]⟩
  · rename_i hne
    exact .inl ⟨zl, zh, by omega, l1, l2, h1, h2, rfl⟩
end Mine

end
section
open PySem PySem.W PyProof.Rows PySem.Calls
set_option maxRecDepth 100000
namespace Mine
theorem bl_pow {N k : Nat} (h : N ≤ 2 ^ k) : bl N ≤ k + 1 := bl_le.mpr (Nat.lt_of_le_of_lt h (Nat.pow_lt_pow_right (by decide) (by omega)))
theorem seg2 (w : World) {n whole p : Nat} {sure : Int} {k m d num en den ed : Nat} {lo hi : Rat} {turned : Nat} {af : Addr} {is : List D} {df dx : D} {a m' d' : Nat} {l1 l2 : D} (P : Par n whole p sure) (R : RS n whole p sure k m d num en den ed lo hi)
    (ha : a = (whole + m) / d) (e1 : a * d = m + m') (h : n = m' * m' + d * d') (a1 : 1 ≤ a) (hmw : m' ≤ whole) (hk : k ≤ 6) (hl : is.length = k) :
    wps PP w (KK w) 13 (fscope (KK w) 312) GT (List.take 7 (List.drop 6 (wbody (fbody (KK w) 312) 5))) (HEnv n p sure whole m d turned af (is ++ [.int a]) num den en ed df dx [(Str.ofString "low", l1), (Str.ofString "high", l2), (Str.ofString "a", .int a)]) (fun o =>
      ∃ top foot nrm, IsF 0 (a * num + en) 0 top ∧ IsF 0 (a * den + ed) 0 foot ∧ o = .next (HEnv n p sure whole m' d' turned af (is ++ [.int a]) (a * num + en) (a * den + ed) num den df dx [(Str.ofString "low", l1), (Str.ofString "high", l2), (Str.ofString "a", .int a), (Str.ofString "top", top), (Str.ofString "foot", foot), (Str.ofString "norm", nrm)])) := by
  have hd := R.fs.d1
  have wB := P.wholeB
  have aB := R.aB P
  rw [← ha] at aB
  have bm' : bl m' ≤ 60 := bl_le.mpr (by omega)
  have bd : bl d ≤ 60 := bl_le.mpr (by have := R.fs.mw; have := R.fs.dw; omega)
  have ba : bl a ≤ 60 := bl_le.mpr (by omega)
  have bn : bl n ≤ 100 := bl_le.mpr P.n2
  have log : ((d : Int)).natAbs.log2 < 9000 := Nat.lt_of_lt_of_le (log2_lt_of_bl bd) (by omega)
  have zd : ((d : Int) = 0) = False := eq_false (by omega)
  have k364 : ∀ {x : Nat}, x ≤ 2 ^ (52 * (k + 1)) → bl x ≤ 400 := fun h => Nat.le_trans (bl_pow h) (by omega)
  have p1 := pow52 aB R.b1 R.b2
  have p2 := pow52 aB R.b3 R.b4
  have bnum : bl num ≤ 400 := Nat.le_trans (bl_pow R.b1) (by omega)
  have bden : bl den ≤ 400 := Nat.le_trans (bl_pow R.b3) (by omega)
  have ok1 : IntMulOk a num := ok_mul (ab_up (ab_nat ba) (by decide)) (ab_up (ab_nat bnum) (by decide))
  have ok2 : IntMulOk a den := ok_mul (ab_up (ab_nat ba) (by decide)) (ab_up (ab_nat bden) (by decide))
  have ok3 : IntMulOk a d := ok_mul (ab_up (ab_nat ba) (by decide)) (ab_up (ab_nat bd) (by decide))
  have ok4 : IntMulOk m' m' := ok_mul (ab_up (ab_nat bm') (by decide)) (ab_up (ab_nat bm') (by decide))
  have c1 : (a : Int) * num + en = ((a * num + en : Nat) : Int) := by push_cast; rfl
  have c2 : (a : Int) * den + ed = ((a * den + ed : Nat) : Int) := by push_cast; rfl
  have c3 : (a : Int) * d - m = (m' : Int) := by
    have := congrArg (fun x : Nat => (x : Int)) e1; push_cast at this; omega
  have c4 : ((n : Int) - (m' : Int) * m').fdiv d = (d' : Int) := by
    have : (n : Int) - (m' : Int) * m' = ((d' * d : Nat) : Int) := by
      have := congrArg (fun x : Nat => (x : Int)) h; push_cast at this ⊢; grind
    rw [this, fdiv_nat, Nat.mul_div_cancel _ hd]
  have hnum : 0 < a * num + en := by have := R.pos.1; have := Nat.mul_le_mul a1 this; omega
  have hden : 0 < a * den + ed := by have := R.pos.2; have := Nat.mul_le_mul_right den a1; omega
  have N' := R.nm.step (a := a) (m' := m') (d' := d') (by omega) (by omega) (by exact_mod_cast h)
  generalize hA : a * num + en = num1 at *
  generalize hB : a * den + ed = den1 at *
  have bnum1 := k364 p1
  have bden1 := k364 p2
  have ev : ((num1 * num1 : Nat) : Int) - ((den1 * den1 * n : Nat) : Int) = -(sgn k) * d' := by
    have := N'.n0
    rw [c1, c2] at this
    push_cast at this ⊢
    grind
  have hlen : (is ++ [PyData.int a]).length = k + 1 := by rw [List.length_append, hl]; rfl
  unfold HEnv
  (conv => arg 7; arg 2; arg 2; whnf)
  simp only [List.drop_succ_cons, List.drop_zero, List.take_succ_cons, List.take_zero]
  (conv => arg 5; whnf); (conv => arg 6; unfold GT)
  simp only [↓s_nil, ↓s_cons, ↓s_pass, ↓s_brk, ↓s_ret, ↓s_asg, ↓s_tup, ↓s_aug, ↓s_if, ↓s_assert, ↓asg_nil, ↓asg_cons, ↓e_int, ↓e_str, ↓e_bool, ↓e_name, ↓e_bin, ↓e_un, ↓e_bool2, ↓e_if, ↓e_cmp, ↓e_call, ↓e_bits, ↓e_sub, ↓e_tup, ↓t_not, ↓t_bool, ↓t_if, ↓t_cmp, ↓t_name, ↓t_call, ↓t_bin, ↓t_const, ↓t_sub, ↓es_nil, ↓es_cons, ↓b_one, ↓b_and, ↓b_or, ↓a_nil_and, ↓a_nil_or, ↓a_and, ↓a_or, ↓c_one, ↓c_more, ↓d_one, ↓d_more, ↓tupk_tup, ↓intk_int, ↓ksq_next, ↓ksq_ret, ↓ksq_brk, ↓ksq_cont, ↓kdf_ret, ↓kdf_next, ↓klp_next, ↓klp_cont, ↓klp_brk, ↓klp_ret, ↓vl_cons, ↓vl_nil, ↓vg_cons, ↓vl0_cons, ↓upk_nil, ↓upk_cons, ↓bv_add, ↓bv_sub, ↓bv_mul, ↓bv_fdiv, ↓bv_mod, ↓bv_shl, ↓bv_shr, ↓bv_and, ↓bv_xor, ↓bv_pow, ↓av_add, ↓av_sub, ↓av_mul, ↓av_shl, ↓av_shr, ↓av_xor, ↓cv_eq, ↓cv_ne, ↓cv_lt, ↓cv_le, ↓cv_gt, ↓cv_ge, ↓cv_str, ↓cv_tup, ↓cv_in, ↓cv_instr, ↓tr_bool, ↓tr_int, ↓uv_neg, ↓uv_not, ↓br_dec, ↓br_tt, ↓br_ff, ↓br_not, ↓sub2_0, ↓sub2_1, ↓sub4_0, ok_name, ok_call, isG_eq, isL_eq, gk_cons, lc_cons, kg, kl, ↓reduceIte, List.all_cons, List.all_nil, List.isEmpty_cons, nstar, nset, nslice, ncall, ncomp, Bool.and_true, Bool.true_and, Bool.not_false, Bool.not_true, and_true, true_and, ne_eq, not_true, not_false_eq_true, List.length_cons, List.length_nil, ite_not, beq_self_eq_true, decide_false, decide_true, Bool.false_eq_true, ↓String.reduceEq, ↓String.reduceNe, Int.reduceLT, Int.reduceLE, Int.reduceGT, Int.reduceGE, Int.reduceEq, Int.reduceNe, Int.reduceNeg, Int.reduceAdd, Int.reduceSub, Int.reduceMul, Int.reduceToNat, Nat.reduceLT, Nat.reduceLeDiff, Nat.reduceAdd, Nat.reduceMul, Nat.reduceEqDiff, c1, c2, c3, c4, ok1, ok2, ok3, ok4]
  refine ⟨by decide +kernel, by decide +kernel, ⟨by omega, log⟩, by decide +kernel, known_from_int w, (from_int_pos w hnum).mono fun top ht => ?_⟩
  refine ⟨known_from_int w, (from_int_pos w hden).mono fun foot hf => ?_⟩
  have pt := ht.pos hnum bnum1
  have pf := hf.pos hden bden1
  refine ⟨known_sub w, known_mul w, (mul_spec w pt pt (by omega)).mono fun x1 hx1 => ?_⟩
  refine ⟨known_mul_int w, known_mul w, (mul_spec w pf pf (by omega)).mono fun x2 hx2 => ?_⟩
  refine (mul_int_spec w (P := 2000) hx2 (show 0 < n by have := P.n1; omega) (by omega) (by omega)).mono fun x3 hx3 => ?_
  have en1 : (num1 : Rat) * num1 = ((num1 * num1 : Nat) : Rat) := by push_cast; rfl
  have en2 : (den1 : Rat) * den1 * n = ((den1 * den1 * n : Nat) : Rat) := by push_cast; rfl
  rw [en1] at hx1
  rw [en2] at hx3
  have bb : ∀ {x y i j : Nat}, bl x ≤ i → bl y ≤ j → bl (x * y) ≤ i + j := fun {x y i j} h1 h2 => bl_le.mpr (by
    rw [Nat.pow_add]; exact Nat.mul_lt_mul'' (bl_le.mp h1) (bl_le.mp h2))
  have b1 : bl (num1 * num1) ≤ 900 := Nat.le_trans (bb bnum1 bnum1) (by decide)
  have b2 : bl (den1 * den1 * n) ≤ 900 := Nat.le_trans (bb (bb bden1 bden1) bn) (by decide)
  have n0 : 0 < n := by have := P.n1; omega
  have z1 : 0 < num1 * num1 := Nat.mul_pos hnum hnum
  have z2 : 0 < den1 * den1 * n := Nat.mul_pos (Nat.mul_pos hden hden) n0
  have sz : ∀ {N : Nat}, 0 < N → bl N ≤ 900 → Sz N := fun {N} h1 h2 => sz_of (one_ge (nat_ge1 h1)) (nat_pw h2 (by decide))
  refine (sub2_spec w (by omega) (by omega) hx1 hx3 (sz z1 b1) (sz z2 b2)).mono fun nrm hn => ?_
  refine ⟨known_to_int w, (norm_int w hn (by omega) (by omega)).mono fun v hv => ?_⟩
  subst hv
  refine ⟨known_len w, (len_spec w (by omega)).mono fun v hv => ?_⟩
  subst hv
  rw [ev, hlen]
  have cm : (((k + 1 : Nat) : Int)).fmod 2 = (((k + 1) % 2 : Nat) : Int) := fmod_nat (k + 1) 2
  have fin : ∃ top' foot' nrm', IsF 0 num1 0 top' ∧ IsF 0 den1 0 foot' ∧ Fl.next (HEnv n p sure whole m' d' turned af (is ++ [.int a]) num1 den1 num den df dx [(Str.ofString "low", l1), (Str.ofString "high", l2), (Str.ofString "a", .int a), (Str.ofString "top", top), (Str.ofString "foot", foot), (Str.ofString "norm", nrm)]) = Fl.next (HEnv n p sure whole m' d' turned af (is ++ [.int a]) num1 den1 num den df dx [(Str.ofString "low", l1), (Str.ofString "high", l2), (Str.ofString "a", .int a), (Str.ofString "top", top'), (Str.ofString "foot", foot'), (Str.ofString "norm", nrm')]) := ⟨top, foot, nrm, ht, hf, rfl⟩
  simp only [↓s_nil, ↓s_cons, ↓s_pass, ↓s_brk, ↓s_ret, ↓s_asg, ↓s_tup, ↓s_aug, ↓s_if, ↓s_assert, ↓asg_nil, ↓asg_cons, ↓e_int, ↓e_str, ↓e_bool, ↓e_name, ↓e_bin, ↓e_un, ↓e_bool2, ↓e_if, ↓e_cmp, ↓e_call, ↓e_bits, ↓e_sub, ↓e_tup, ↓t_not, ↓t_bool, ↓t_if, ↓t_cmp, ↓t_name, ↓t_call, ↓t_bin, ↓t_const, ↓t_sub, ↓es_nil, ↓es_cons, ↓b_one, ↓b_and, ↓b_or, ↓a_nil_and, ↓a_nil_or, ↓a_and, ↓a_or, ↓c_one, ↓c_more, ↓d_one, ↓d_more, ↓tupk_tup, ↓intk_int, ↓ksq_next, ↓ksq_ret, ↓ksq_brk, ↓ksq_cont, ↓kdf_ret, ↓kdf_next, ↓klp_next, ↓klp_cont, ↓klp_brk, ↓klp_ret, ↓vl_cons, ↓vl_nil, ↓vg_cons, ↓vl0_cons, ↓upk_nil, ↓upk_cons, ↓bv_add, ↓bv_sub, ↓bv_mul, ↓bv_fdiv, ↓bv_mod, ↓bv_shl, ↓bv_shr, ↓bv_and, ↓bv_xor, ↓bv_pow, ↓av_add, ↓av_sub, ↓av_mul, ↓av_shl, ↓av_shr, ↓av_xor, ↓cv_eq, ↓cv_ne, ↓cv_lt, ↓cv_le, ↓cv_gt, ↓cv_ge, ↓cv_str, ↓cv_tup, ↓cv_in, ↓cv_instr, ↓tr_bool, ↓tr_int, ↓uv_neg, ↓uv_not, ↓br_dec, ↓br_tt, ↓br_ff, ↓br_not, ↓sub2_0, ↓sub2_1, ↓sub4_0, ok_name, ok_call, isG_eq, isL_eq, gk_cons, lc_cons, kg, kl, ↓reduceIte, List.all_cons, List.all_nil, List.isEmpty_cons, nstar, nset, nslice, ncall, ncomp, Bool.and_true, Bool.true_and, Bool.not_false, Bool.not_true, and_true, true_and, ne_eq, not_true, not_false_eq_true, List.length_cons, List.length_nil, ite_not, beq_self_eq_true, decide_false, decide_true, Bool.false_eq_true, ↓String.reduceEq, ↓String.reduceNe, Int.reduceLT, Int.reduceLE, Int.reduceGT, Int.reduceGE, Int.reduceEq, Int.reduceNe, Int.reduceNeg, Int.reduceAdd, Int.reduceSub, Int.reduceMul, Int.reduceToNat, Nat.reduceLT, Nat.reduceLeDiff, Nat.reduceAdd, Nat.reduceMul, Nat.reduceEqDiff]
  rw [cm]
  rcases (by omega : k % 2 = 0 ∨ k % 2 = 1) with q | q
  · have hs : sgn k = 1 := by unfold sgn; rw [if_pos q]
    rw [hs, if_neg (by omega), if_pos (by omega)]
    exact fin
  · have hs : sgn k = -1 := by unfold sgn; rw [if_neg (by omega)]
    rw [hs, if_pos (by omega), if_pos (by omega)]
    exact fin
end Mine

end
section
open PySem PySem.W PyProof.Rows PySem.Calls
set_option maxRecDepth 100000
namespace Mine
theorem mag_nat {a : Nat} {v : Rat} (ha : 0 < a) (h1 : (a : Rat) ≤ v) (h2 : v < (a : Rat) + 1) : Mag v a := by
  have b1 := bl_lo ha
  have b2 := bl_up a
  have hb := bl_ge1 ha
  have e1 : pw ((bl a - 1 : Nat) : Int) ≤ a := by rw [pw_nat]; exact_mod_cast b1
  have e2 : (a : Rat) + 1 ≤ pw (((bl a - 1 : Nat) : Int) + 1) := by
    rw [show ((bl a - 1 : Nat) : Int) + 1 = ((bl a : Nat) : Int) by omega, pw_nat]
    have : ((a + 1 : Nat) : Rat) ≤ ((2 ^ bl a : Nat) : Rat) := by exact_mod_cast b2
    push_cast at this ⊢; exact this
  exact ⟨((bl a - 1 : Nat) : Int), by grind, by grind, e1, by grind⟩
theorem pi_one : PI 1 1 1 (.tuple [fl 0 1 0 1, fl 0 1 0 1]) := by
  have : Pos 1 1 (fl 0 1 0 1) := ⟨1, 0, ⟨by rw [bl_one]; rfl, by decide, by rw [bl_one]; omega⟩, by rw [pw_zero]; push_cast; grind⟩
  exact ⟨_, _, rfl, this, this⟩
theorem seg3 (w : World) {n p : Nat} {sure : Int} {whole m d num en den ed : Nat} {lo hi : Rat} {turned : Nat} {af : Addr} {is : List D} {df dx : D} {a : Nat} {l1 l2 t1 t2 t3 : D} (hp : 4 ≤ p) (hp2 : p ≤ 119)
    (hx : PI p lo hi dx) (a1 : 1 ≤ a) (ba : bl a ≤ 60) (g1 : (a : Rat) ≤ lo) (g2 : lo < (a : Rat) + 1) (g3 : (a : Rat) ≤ hi) (g4 : hi < (a : Rat) + 1) (hlh : lo ≤ hi) (q1 : 1 ≤ lo) (q2 : lo ≤ pw 200) (q3 : 1 ≤ hi) (q4 : hi ≤ pw 200) :
    wps PP w (KK w) 13 (fscope (KK w) 312) GT (List.drop 14 (wbody (fbody (KK w) 312) 5)) (HEnv n p sure whole m d turned af is num den en ed df dx [(Str.ofString "low", l1), (Str.ofString "high", l2), (Str.ofString "a", .int a), (Str.ofString "top", t1), (Str.ofString "foot", t2), (Str.ofString "norm", t3)]) (fun o =>
      (∃ rest, lo = a ∧ o = .brk (HEnv n p sure whole m d turned af is num den en ed df dx [(Str.ofString "low", l1), (Str.ofString "high", l2), (Str.ofString "a", .int a), (Str.ofString "top", t1), (Str.ofString "foot", t2), (Str.ofString "norm", t3), (Str.ofString "rest", rest)])) ∨
      (∃ rest dx' rl rh lo' hi', (a : Rat) < lo ∧ RDn p (lo - a) rl ∧ RUp p (hi - a) rh ∧ RDn p (1 / rh) lo' ∧ RUp p (1 / rl) hi' ∧ 0 < rl ∧ 0 < rh ∧ PI p lo' hi' dx' ∧
        o = .next (HEnv n p sure whole m d (turned + 1) af is num den en ed df dx' [(Str.ofString "low", l1), (Str.ofString "high", l2), (Str.ofString "a", .int a), (Str.ofString "top", t1), (Str.ofString "foot", t2), (Str.ofString "norm", t3), (Str.ofString "rest", rest)]))) := by
  have ha : 0 < a := a1
  have sl := sz_of (one_ge q1) (pw_up q2 (show (200 : Int) ≤ 1000 by decide))
  have sh := sz_of (one_ge q3) (pw_up q4 (show (200 : Int) ≤ 1000 by decide))
  have sa : Sz (a : Rat) := sz_of (one_ge (nat_ge1 ha)) (nat_pw ba (by decide))
  have ct : (turned : Int) + 1 = ((turned + 1 : Nat) : Int) := by push_cast; rfl
  unfold HEnv
  (conv => arg 7; arg 2; whnf)
  simp only [List.drop_succ_cons, List.drop_zero]
  (conv => arg 5; whnf); (conv => arg 6; unfold GT)
  simp only [↓s_nil, ↓s_cons, ↓s_pass, ↓s_brk, ↓s_ret, ↓s_asg, ↓s_tup, ↓s_aug, ↓s_if, ↓s_assert, ↓asg_nil, ↓asg_cons, ↓e_int, ↓e_str, ↓e_bool, ↓e_name, ↓e_bin, ↓e_un, ↓e_bool2, ↓e_if, ↓e_cmp, ↓e_call, ↓e_bits, ↓e_sub, ↓e_tup, ↓t_not, ↓t_bool, ↓t_if, ↓t_cmp, ↓t_name, ↓t_call, ↓t_bin, ↓t_const, ↓t_sub, ↓es_nil, ↓es_cons, ↓b_one, ↓b_and, ↓b_or, ↓a_nil_and, ↓a_nil_or, ↓a_and, ↓a_or, ↓c_one, ↓c_more, ↓d_one, ↓d_more, ↓tupk_tup, ↓intk_int, ↓ksq_next, ↓ksq_ret, ↓ksq_brk, ↓ksq_cont, ↓kdf_ret, ↓kdf_next, ↓klp_next, ↓klp_cont, ↓klp_brk, ↓klp_ret, ↓vl_cons, ↓vl_nil, ↓vg_cons, ↓vl0_cons, ↓upk_nil, ↓upk_cons, ↓bv_add, ↓bv_sub, ↓bv_mul, ↓bv_fdiv, ↓bv_mod, ↓bv_shl, ↓bv_shr, ↓bv_and, ↓bv_xor, ↓bv_pow, ↓av_add, ↓av_sub, ↓av_mul, ↓av_shl, ↓av_shr, ↓av_xor, ↓cv_eq, ↓cv_ne, ↓cv_lt, ↓cv_le, ↓cv_gt, ↓cv_ge, ↓cv_str, ↓cv_tup, ↓cv_in, ↓cv_instr, ↓tr_bool, ↓tr_int, ↓uv_neg, ↓uv_not, ↓br_dec, ↓br_tt, ↓br_ff, ↓br_not, ↓sub2_0, ↓sub2_1, ↓sub4_0, ok_name, ok_call, isG_eq, isL_eq, gk_cons, lc_cons, kg, kl, ↓reduceIte, List.all_cons, List.all_nil, List.isEmpty_cons, nstar, nset, nslice, ncall, ncomp, Bool.and_true, Bool.true_and, Bool.not_false, Bool.not_true, and_true, true_and, ne_eq, not_true, not_false_eq_true, List.length_cons, List.length_nil, ite_not, beq_self_eq_true, decide_false, decide_true, Bool.false_eq_true, ↓String.reduceEq, ↓String.reduceNe, Int.reduceLT, Int.reduceLE, Int.reduceGT, Int.reduceGE, Int.reduceEq, Int.reduceNe, Int.reduceNeg, Int.reduceAdd, Int.reduceSub, Int.reduceMul, Int.reduceToNat, Nat.reduceLT, Nat.reduceLeDiff, Nat.reduceAdd, Nat.reduceMul, Nat.reduceEqDiff, ct]
  refine ⟨known_isub w, known_point w, (point_spec w ha).mono fun pt hpt => ?_⟩
  refine (isub_spec w (q := 60) (by omega) (by omega) (by omega) hx (hpt.pi ha ba) sl sh sa sa (mag_nat ha g1 g2) (mag_nat ha g3 g4) g1 g3).mono fun rest hr => ?_
  obtain ⟨A, B, rfl, hA, hB⟩ := hr
  rcases hA with ⟨e, rfl⟩ | ⟨lt, hA⟩
  · unfold fl
    simp only [↓s_nil, ↓s_cons, ↓s_pass, ↓s_brk, ↓s_ret, ↓s_asg, ↓s_tup, ↓s_aug, ↓s_if, ↓s_assert, ↓asg_nil, ↓asg_cons, ↓e_int, ↓e_str, ↓e_bool, ↓e_name, ↓e_bin, ↓e_un, ↓e_bool2, ↓e_if, ↓e_cmp, ↓e_call, ↓e_bits, ↓e_sub, ↓e_tup, ↓t_not, ↓t_bool, ↓t_if, ↓t_cmp, ↓t_name, ↓t_call, ↓t_bin, ↓t_const, ↓t_sub, ↓es_nil, ↓es_cons, ↓b_one, ↓b_and, ↓b_or, ↓a_nil_and, ↓a_nil_or, ↓a_and, ↓a_or, ↓c_one, ↓c_more, ↓d_one, ↓d_more, ↓tupk_tup, ↓intk_int, ↓ksq_next, ↓ksq_ret, ↓ksq_brk, ↓ksq_cont, ↓kdf_ret, ↓kdf_next, ↓klp_next, ↓klp_cont, ↓klp_brk, ↓klp_ret, ↓vl_cons, ↓vl_nil, ↓vg_cons, ↓vl0_cons, ↓upk_nil, ↓upk_cons, ↓bv_add, ↓bv_sub, ↓bv_mul, ↓bv_fdiv, ↓bv_mod, ↓bv_shl, ↓bv_shr, ↓bv_and, ↓bv_xor, ↓bv_pow, ↓av_add, ↓av_sub, ↓av_mul, ↓av_shl, ↓av_shr, ↓av_xor, ↓cv_eq, ↓cv_ne, ↓cv_lt, ↓cv_le, ↓cv_gt, ↓cv_ge, ↓cv_str, ↓cv_tup, ↓cv_in, ↓cv_instr, ↓tr_bool, ↓tr_int, ↓uv_neg, ↓uv_not, ↓br_dec, ↓br_tt, ↓br_ff, ↓br_not, ↓sub2_0, ↓sub2_1, ↓sub4_0, ok_name, ok_call, isG_eq, isL_eq, gk_cons, lc_cons, kg, kl, ↓reduceIte, List.all_cons, List.all_nil, List.isEmpty_cons, nstar, nset, nslice, ncall, ncomp, Bool.and_true, Bool.true_and, Bool.not_false, Bool.not_true, and_true, true_and, ne_eq, not_true, not_false_eq_true, List.length_cons, List.length_nil, ite_not, beq_self_eq_true, decide_false, decide_true, Bool.false_eq_true, ↓String.reduceEq, ↓String.reduceNe, Int.reduceLT, Int.reduceLE, Int.reduceGT, Int.reduceGE, Int.reduceEq, Int.reduceNe, Int.reduceNeg, Int.reduceAdd, Int.reduceSub, Int.reduceMul, Int.reduceToNat, Nat.reduceLT, Nat.reduceLeDiff, Nat.reduceAdd, Nat.reduceMul, Nat.reduceEqDiff, if_true, and_self]
    exact .inl ⟨_, e, rfl⟩
  · rcases hB with ⟨e, _⟩ | ⟨_, hB⟩
    · exfalso; grind
    obtain ⟨rl, pl, Rl⟩ := hA.dn
    obtain ⟨rh, ph, Rh⟩ := hB.up
    have hrl := pl.pos
    have hrh := ph.pos
    have PR : PI p rl rh (.tuple [A, B]) := ⟨A, B, rfl, pl, ph⟩
    have D := idiv_spec w (p := p) (by omega) (by omega) (by omega) (by omega) pi_one PR
    obtain ⟨M, E, ⟨rfl, ho, _⟩, _⟩ := pl
    have z1 : ((M : Int) = 0) = False := eq_false (by omega)
    unfold fl at D ⊢
    simp only [↓s_nil, ↓s_cons, ↓s_pass, ↓s_brk, ↓s_ret, ↓s_asg, ↓s_tup, ↓s_aug, ↓s_if, ↓s_assert, ↓asg_nil, ↓asg_cons, ↓e_int, ↓e_str, ↓e_bool, ↓e_name, ↓e_bin, ↓e_un, ↓e_bool2, ↓e_if, ↓e_cmp, ↓e_call, ↓e_bits, ↓e_sub, ↓e_tup, ↓t_not, ↓t_bool, ↓t_if, ↓t_cmp, ↓t_name, ↓t_call, ↓t_bin, ↓t_const, ↓t_sub, ↓es_nil, ↓es_cons, ↓b_one, ↓b_and, ↓b_or, ↓a_nil_and, ↓a_nil_or, ↓a_and, ↓a_or, ↓c_one, ↓c_more, ↓d_one, ↓d_more, ↓tupk_tup, ↓intk_int, ↓ksq_next, ↓ksq_ret, ↓ksq_brk, ↓ksq_cont, ↓kdf_ret, ↓kdf_next, ↓klp_next, ↓klp_cont, ↓klp_brk, ↓klp_ret, ↓vl_cons, ↓vl_nil, ↓vg_cons, ↓vl0_cons, ↓upk_nil, ↓upk_cons, ↓bv_add, ↓bv_sub, ↓bv_mul, ↓bv_fdiv, ↓bv_mod, ↓bv_shl, ↓bv_shr, ↓bv_and, ↓bv_xor, ↓bv_pow, ↓av_add, ↓av_sub, ↓av_mul, ↓av_shl, ↓av_shr, ↓av_xor, ↓cv_eq, ↓cv_ne, ↓cv_lt, ↓cv_le, ↓cv_gt, ↓cv_ge, ↓cv_str, ↓cv_tup, ↓cv_in, ↓cv_instr, ↓tr_bool, ↓tr_int, ↓uv_neg, ↓uv_not, ↓br_dec, ↓br_tt, ↓br_ff, ↓br_not, ↓sub2_0, ↓sub2_1, ↓sub4_0, ok_name, ok_call, isG_eq, isL_eq, gk_cons, lc_cons, kg, kl, ↓reduceIte, List.all_cons, List.all_nil, List.isEmpty_cons, nstar, nset, nslice, ncall, ncomp, Bool.and_true, Bool.true_and, Bool.not_false, Bool.not_true, and_true, true_and, ne_eq, not_true, not_false_eq_true, List.length_cons, List.length_nil, ite_not, beq_self_eq_true, decide_false, decide_true, Bool.false_eq_true, ↓String.reduceEq, ↓String.reduceNe, Int.reduceLT, Int.reduceLE, Int.reduceGT, Int.reduceGE, Int.reduceEq, Int.reduceNe, Int.reduceNeg, Int.reduceAdd, Int.reduceSub, Int.reduceMul, Int.reduceToNat, Nat.reduceLT, Nat.reduceLeDiff, Nat.reduceAdd, Nat.reduceMul, Nat.reduceEqDiff, z1, false_and, and_false, if_false]
    refine ⟨known_idiv w, D.mono fun dx' hd => ?_⟩
    obtain ⟨lo', hi', PX, R3, R4⟩ := hd
    exact .inr ⟨_, dx', rl, rh, lo', hi', lt, Rl, Rh, R3, R4, hrl, hrh, PX, rfl⟩
end Mine

end
section
open PySem PySem.W PyProof.Rows PySem.Calls
set_option maxRecDepth 100000
namespace Mine
theorem Inn.weak {K : Frag} {h₀ : Heap} {L : Addr} {sc : Scope} {ρ ρ' : Ev} {s : Shared} (I : Inn K h₀ L sc ρ s) (h : ∀ x d, lk x ρ' = some d → lk x ρ = some d) : Inn K h₀ L sc ρ' s where
  fr := let ⟨m, F, r⟩ := I.fr; ⟨m, F, fun x d e => r x d (h x d e)⟩
  gd := I.gd
  loc := fun x d e => I.loc x d (h x d e)
  kind := I.kind
theorem lk_app {x : Str} {d : D} : ∀ {a b : Ev}, lk x a = some d → lk x (a ++ b) = some d
  | [], b, h => by cases h
  | (y, e) :: r, b, h => by
    unfold lk at h
    show (if y = x then some e else lk x (r ++ b)) = some d
    split at h
    · rename_i q; rw [if_pos q]; exact h
    · rename_i q; rw [if_neg q]; exact lk_app h
theorem henv_app {n p : Nat} {sure : Int} {whole m d turned : Nat} {af : Addr} {is : List D} {num den en ed : Nat} {df dx : D} {more : Ev} : HEnv n p sure whole m d turned af is num den en ed df dx more = HEnv n p sure whole m d turned af is num den en ed df dx [] ++ more := rfl
theorem Inn.head {K : Frag} {h₀ : Heap} {L : Addr} {sc : Scope} {s : Shared} {n p : Nat} {sure : Int} {whole m d turned : Nat} {af : Addr} {is : List D} {num den en ed : Nat} {df dx : D} {more : Ev}
    (I : Inn K h₀ L sc (HEnv n p sure whole m d turned af is num den en ed df dx more) s) : Inn K h₀ L sc (HEnv n p sure whole m d turned af is num den en ed df dx []) s :=
  I.weak fun x e h => by rw [henv_app]; exact lk_app h
/-- the bounds of the first interval -/
structure First (n p : Nat) (fl fh : Rat) (df : D) : Prop where
  pi : PI p fl fh df
  a1 : 1 ≤ fl
  a2 : fl ≤ pw 200
  a3 : 1 ≤ fh
  a4 : fh ≤ pw 200
  sq1 : fl * fl ≤ n
  sq2 : (n : Rat) ≤ fh * fh
theorem quot_bounds {p N M : Nat} {cl ch : Rat} (hp : 1 ≤ p) (hN : 0 < N) (hM : 0 < M) (bN : bl N ≤ 400) (bM : bl M ≤ 400) (R1 : RDn p ((N : Rat) / M) cl) (R2 : RUp p ((N : Rat) / M) ch) :
    cl * M ≤ N ∧ (N : Rat) ≤ ch * M ∧ pw (-1000) ≤ cl ∧ cl ≤ pw 1000 ∧ pw (-1000) ≤ ch ∧ ch ≤ pw 1000 := by
  have hMr : (0 : Rat) < M := Rat.natCast_pos.mpr hM
  have e : (N : Rat) / M * M = N := Rat.div_mul_cancel (Rat.ne_of_gt hMr)
  have u1 := nat_pw bN (q := 400) (by decide)
  have u2 := nat_pw bM (q := 400) (by decide)
  have n1 := nat_ge1 hN
  have m1 := nat_ge1 hM
  have q1 : (N : Rat) / M ≤ pw 400 := by
    rcases (by grind : (N : Rat) / M ≤ pw 400 ∨ pw 400 < (N : Rat) / M) with q | q
    · exact q
    · exfalso
      have h := mlt q hMr
      rw [e] at h
      have := mle m1 (Rat.le_of_lt (pw_pos 400))
      grind
  have q2 : pw (-400) ≤ (N : Rat) / M := by
    rcases (by grind : pw (-400) ≤ (N : Rat) / M ∨ (N : Rat) / M < pw (-400)) with q | q
    · exact q
    · exfalso
      have h := mlt q hMr
      rw [e] at h
      have h2 := Rat.mul_le_mul_of_nonneg_left u2 (Rat.le_of_lt (pw_pos (-400)))
      rw [pw_mul_neg 400] at h2
      grind
  have z1 := mle R1.le (Rat.le_of_lt hMr)
  have z2 := mle R2.le (Rat.le_of_lt hMr)
  rw [e] at z1 z2
  have w1 := R1.ge_pw hp q2
  have w2 := R2.le_pw hp q1
  have l1 := R1.le
  have l2 := R2.le
  have m1 := pw_mono (show (-1000 : Int) ≤ -400 by decide)
  have m2 := pw_mono (show (400 : Int) ≤ 1000 by decide)
  exact ⟨z1, z2, by grind, by grind, by grind, by grind⟩
/-- the statement that asks whether a convergent lies beside -/
theorem beside_stmt (w : World) {A : Around} {s : Shared} {l : List Env} {H : Heap} {L : Addr} {nm : Str} {cd : Value} {Q : Flow → Shared → Prop}
    {n p : Nat} {sure : Int} {whole m d turned : Nat} {af : Addr} {is : List D} {num den en ed : Nat} {fl' fh : Rat} {df dx l1 l2 l3 top foot nrm : D} {b : List Stmt} {i0 i1 i2 i3 i4 i5 i6 i7 i8 i9 i10 i11 i12 i13 i14 i15 i16 : PySem.Pos} {j1 j2 : Nat}
    (hst : A.frames = some l) (f : FF l s.heap) (off : Off l H) (I : Inn (KK w) H L (fscope (KK w) 312) (HEnv n p sure whole m d turned af is num den en ed df dx [(Str.ofString "low", l1), (Str.ofString "high", l2), (Str.ofString "a", l3), (Str.ofString "top", top), (Str.ofString "foot", foot), (Str.ofString "norm", nrm)]) s)
    (R : Rm 13 (A.deeper (envOf nm (fscope (KK w) 312) L 312 cd))) (hp : 4 ≤ p) (hp2 : p ≤ 119) (n100 : bl n ≤ 100) (F : First n p fl' fh df) (ht : IsF 0 num 0 top) (hf : IsF 0 den 0 foot) (h1 : 0 < num) (h2 : 0 < den) (b1 : bl num ≤ 400) (b2 : bl den ≤ 400)
    (hq : ∀ s', ExU (envOf nm (fscope (KK w) 312) L 312 cd :: l) s s' → Inn (KK w) H L (fscope (KK w) 312) (HEnv n p sure whole m d turned af is num den en ed df dx [(Str.ofString "low", l1), (Str.ofString "high", l2), (Str.ofString "a", l3), (Str.ofString "top", top), (Str.ofString "foot", foot), (Str.ofString "norm", nrm)]) s' → Q .next s') :
    wpAny (model PP w) (A.deeper (envOf nm (fscope (KK w) 312) L 312 cd)) (exec (.If (.UnaryOp .Not (.Call (.Name (Str.ofString "_law_beside") i0) [.Call (.Name (Str.ofString "mpi_div") i1) [.Tuple [.Name (Str.ofString "top") i2, .Name (Str.ofString "top") i3] j1 i4, .Tuple [.Name (Str.ofString "foot") i5, .Name (Str.ofString "foot") i6] j2 i7, .Name (Str.ofString "p") i8] [] i9, .Name (Str.ofString "first") i10, .Name (Str.ofString "num") i11, .Name (Str.ofString "den") i12, .Name (Str.ofString "n") i13] [] i14) i15) b [] i16) (envOf nm (fscope (KK w) 312) L 312 cd)) Q (fun _ _ => False) s := by
  have pt := ht.pos h1 b1
  have pf := hf.pos h2 b2
  have off' : Off (envOf nm (fscope (KK w) 312) L 312 cd :: l) H := let ⟨_, F, _⟩ := I.fr; off.push F
  refine wpAny_If (wpAny_isTrue_Not (isTrue_call ?_))
  refine eval_call (n := 13) (k := fun ds => ∃ dc, ds = [dc, df, .int num, .int den, .int n] ∧ IR p ((num : Rat) / den) ((num : Rat) / den) dc) (gok w) rfl rfl rfl (.inl (d_ulaw_beside w).at') ⟨_, _, rfl, rfl⟩ ?_ R I fun s₁ vs ds hds ex I₁ rv => ?_
  · unfold HEnv
    (conv => arg 5; whnf); (conv => arg 6; unfold GT)
    simp only [↓s_nil, ↓s_cons, ↓s_pass, ↓s_brk, ↓s_ret, ↓s_asg, ↓s_tup, ↓s_aug, ↓s_if, ↓s_assert, ↓asg_nil, ↓asg_cons, ↓e_int, ↓e_str, ↓e_bool, ↓e_name, ↓e_bin, ↓e_un, ↓e_bool2, ↓e_if, ↓e_cmp, ↓e_call, ↓e_bits, ↓e_sub, ↓e_tup, ↓t_not, ↓t_bool, ↓t_if, ↓t_cmp, ↓t_name, ↓t_call, ↓t_bin, ↓t_const, ↓t_sub, ↓es_nil, ↓es_cons, ↓b_one, ↓b_and, ↓b_or, ↓a_nil_and, ↓a_nil_or, ↓a_and, ↓a_or, ↓c_one, ↓c_more, ↓d_one, ↓d_more, ↓tupk_tup, ↓intk_int, ↓ksq_next, ↓ksq_ret, ↓ksq_brk, ↓ksq_cont, ↓kdf_ret, ↓kdf_next, ↓klp_next, ↓klp_cont, ↓klp_brk, ↓klp_ret, ↓vl_cons, ↓vl_nil, ↓vg_cons, ↓vl0_cons, ↓upk_nil, ↓upk_cons, ↓bv_add, ↓bv_sub, ↓bv_mul, ↓bv_fdiv, ↓bv_mod, ↓bv_shl, ↓bv_shr, ↓bv_and, ↓bv_xor, ↓bv_pow, ↓av_add, ↓av_sub, ↓av_mul, ↓av_shl, ↓av_shr, ↓av_xor, ↓cv_eq, ↓cv_ne, ↓cv_lt, ↓cv_le, ↓cv_gt, ↓cv_ge, ↓cv_str, ↓cv_tup, ↓cv_in, ↓cv_instr, ↓tr_bool, ↓tr_int, ↓uv_neg, ↓uv_not, ↓br_dec, ↓br_tt, ↓br_ff, ↓br_not, ↓sub2_0, ↓sub2_1, ↓sub4_0, ok_name, ok_call, isG_eq, isL_eq, gk_cons, lc_cons, kg, kl, ↓reduceIte, List.all_cons, List.all_nil, List.isEmpty_cons, nstar, nset, nslice, ncall, ncomp, Bool.and_true, Bool.true_and, Bool.not_false, Bool.not_true, and_true, true_and, ne_eq, not_true, not_false_eq_true, List.length_cons, List.length_nil, ite_not, beq_self_eq_true, decide_false, decide_true, Bool.false_eq_true, ↓String.reduceEq, ↓String.reduceNe, Int.reduceLT, Int.reduceLE, Int.reduceGT, Int.reduceGE, Int.reduceEq, Int.reduceNe, Int.reduceNeg, Int.reduceAdd, Int.reduceSub, Int.reduceMul, Int.reduceToNat, Nat.reduceLT, Nat.reduceLeDiff, Nat.reduceAdd, Nat.reduceMul, Nat.reduceEqDiff]
    exact ⟨known_idiv w, (idiv_spec w (by omega) (by omega) (show 400 ≤ 2000 by decide) (show 400 ≤ 2000 by decide) ⟨_, _, rfl, pt, pt⟩ ⟨_, _, rfl, pf, pf⟩).mono fun dc hd => ⟨dc, rfl, hd⟩⟩
  · obtain ⟨dc, rfl, cl, ch, pc, R1, R2⟩ := hds
    obtain ⟨c1, c2, g1, g2, g3, g4⟩ := quot_bounds (by omega) h1 h2 b1 b2 R1 R2
    obtain ⟨m₁, F₁, _⟩ := I₁.fr
    have u1 := Heap.UpToSlots.of_keeps ex.2
    have hden : (0 : Rat) < den := Rat.natCast_pos.mpr h2
    refine beside_call w (Around.frames_deeper hst) (((f.up u1).push F₁ I₁.kind)) R (I₁.gd.kp fun b o e => hid_get (F₁.keep b o e) (off' b o e)) rv (by omega) pc F.pi (sz_of g1 g2) (sz_of g3 g4) (sz_of (one_ge F.a1) (pw_up F.a2 (by decide))) (sz_of (one_ge F.a3) (pw_up F.a4 (by decide)))
      g1 g2 g3 g4 (one_ge F.a1) (pw_up F.a2 (by decide)) (one_ge F.a3) (pw_up F.a4 (by decide)) c1 c2 (by omega) (by omega) (by omega) ?_ ?_ fun s' xu => ?_
    · intro hlt
      have a1 : (num : Rat) < fl' * den := by have := mlt hlt hden; grind
      have a2 := lt_sq (Rat.natCast_nonneg (a := num)) a1
      have a3 := mle F.sq1 (show (0 : Rat) ≤ (den : Rat) * den from Rat.mul_nonneg (Rat.le_of_lt hden) (Rat.le_of_lt hden))
      have a4 : ((num * num : Nat) : Rat) < ((n * den * den : Nat) : Rat) := by push_cast; grind
      exact_mod_cast a4
    · intro hge
      have f0 := F.a3
      have a1 : fh * den ≤ num := by have := mle hge (Rat.le_of_lt hden); grind
      have a2 := le_sq (Rat.mul_nonneg (show 0 ≤ fh by grind) (Rat.le_of_lt hden)) a1
      have a3 := mle F.sq2 (show (0 : Rat) ≤ (den : Rat) * den from Rat.mul_nonneg (Rat.le_of_lt hden) (Rat.le_of_lt hden))
      have a4 : ((n * den * den : Nat) : Rat) ≤ ((num * num : Nat) : Rat) := by push_cast; grind
      have : n * den * den ≤ num * num := by exact_mod_cast a4
      omega
    · refine ⟨true, rfl, ?_⟩
      have xx : ExU (envOf nm (fscope (KK w) 312) L 312 cd :: l) s s' := ex.exu.trans xu
      show wpAny _ _ (execs (if (!true) = true then b else []) _) _ _ _
      exact wpAny_execs_nil (hq s' xx (I.exu off' xx))
end Mine

end
section
open PySem PySem.W PyProof.Rows PySem.Calls
set_option maxRecDepth 100000
namespace Mine
def nts (l : List Nat) : List D := l.map fun (a : Nat) => PyData.int (a : Int)
def AEnv (n p : Nat) (sure : Int) (whole turned : Nat) (af : Addr) (is : List D) (df dx : D) : Ev :=
  [(Str.ofString "n", .int n), (Str.ofString "p", .int p), (Str.ofString "sure", .int sure), (Str.ofString "whole", .int whole), (Str.ofString "turned", .int turned), (Str.ofString "figures", lat af is), (Str.ofString "first", df), (Str.ofString "x", dx)]
theorem aenv_head {n p : Nat} {sure : Int} {whole m d turned : Nat} {af : Addr} {is : List D} {num den en ed : Nat} {df dx : D} {more : Ev} :
    ∀ x e, lk x (AEnv n p sure whole turned af is df dx) = some e → lk x (HEnv n p sure whole m d turned af is num den en ed df dx more) = some e := by
  intro x e h
  unfold AEnv at h
  simp only [lk] at h
  repeat (split at h; (· rename_i q; subst q; cases h; simp [HEnv, lk, ofs]))
  cases h
theorem nls_nts : ∀ l : List Nat, nls (nts l) = true
  | [] => rfl
  | a :: r => by show (true && nls (nts r)) = true; rw [nls_nts r]; rfl
structure Hold (s s' : Shared) : Prop where
  up : s.heap.UpToSlots s'.heap
  like : ∃ h t, s' = { s with heap := h, toks := t }
theorem Hold.step {s a b : Shared} {L : Addr} (x : Hold s a) (lk : Like L a b) (hL : s.heap.get? L = none) : Hold s b := ⟨up_like x.up lk hL, like_sh x.like lk.1⟩
theorem Hold.exu {s a b : Shared} {l : List Env} (x : Hold s a) (y : ExU l a b) : Hold s b := ⟨x.up.trans y.up, like_sh x.like y.like⟩
def Head (w : World) (n p : Nat) (sure : Int) (whole : Nat) (af : Addr) (df : D) (H : Heap) (L : Addr) (s : Shared) (k : Nat) (s' : Shared) : Prop :=
  ∃ (m d num en den ed : Nat) (lo hi : Rat) (rf : List Nat) (dx : D), Inn (KK w) H L (fscope (KK w) 312) (HEnv n p sure whole m d k af (nts rf.reverse) num den en ed df dx []) s' ∧
    RS n whole p sure k m d num en den ed lo hi ∧ PI p lo hi dx ∧ Ch n p rf m d ∧ rf.length = k ∧ Hold s s'
def Done (w : World) (n p : Nat) (sure : Int) (whole : Nat) (af : Addr) (df : D) (H : Heap) (L : Addr) (s : Shared) (s' : Shared) : Prop :=
  ∃ (is : List Nat) (t m d : Nat) (lo hi : Rat) (dx : D), Inn (KK w) H L (fscope (KK w) 312) (AEnv n p sure whole t af (nts is) df dx) s' ∧ t ≤ is.length ∧ is.length ≤ 7 ∧ Ch n p (is.take t).reverse m d ∧ CutR lo hi m d n ∧
    1 ≤ lo ∧ lo ≤ pw 200 ∧ 1 ≤ hi ∧ hi ≤ pw 200 ∧ PI p lo hi dx ∧ ¬ (is.length : Int) < need n whole sure ∧ Hold s s'
theorem Head.done (w : World) {n p : Nat} {sure : Int} {whole : Nat} {af : Addr} {df : D} {H : Heap} {L : Addr} {s : Shared} {s' : Shared} (P : Par n whole p sure) (h : Head w n p sure whole af df H L s 7 s') : Done w n p sure whole af df H L s s' := by
  obtain ⟨m, d, num, en, den, ed, lo, hi, rf, dx, I, R, px, ch, hl, ho⟩ := h
  refine ⟨rf.reverse, 7, m, d, lo, hi, dx, I.weak aenv_head, by simp [hl], by simp [hl], ?_, R.cut, R.l1, R.l2, R.h1, R.h2, px, ?_, ho⟩
  · rw [List.take_of_length_le (by simp [hl]), List.reverse_reverse]; exact ch
  · rw [List.length_reverse, hl]; exact exit3 P
theorem lk_in {x : Str} {d : D} : ∀ {ρ : Ev}, lk x ρ = some d → (x, d) ∈ ρ
  | [], h => by cases h
  | (y, e) :: r, h => by
    unfold lk at h
    by_cases q : y = x
    · rw [if_pos q] at h; cases h; rw [q]; exact .head _
    · rw [if_neg q] at h; exact .tail _ (lk_in h)
theorem lk_skip {x y : Str} {e : D} {r : Ev} (h : ¬ y = x) : lk x ((y, e) :: r) = lk x r := by
  show (if y = x then some e else lk x r) = _
  rw [if_neg h]
theorem lk_here {x : Str} {e : D} {r : Ev} : lk x ((x, e) :: r) = some e := by
  show (if x = x then some e else lk x r) = _
  rw [if_pos rfl]
theorem sne {a b : String} (h : ¬ a = b) : ¬ Str.ofString a = Str.ofString b := by rw [ofs]; exact h
theorem henv_fig {n p : Nat} {sure : Int} {whole m d turned : Nat} {af : Addr} {is : List D} {num den en ed : Nat} {df dx : D} {more : Ev} : lk (Str.ofString "figures") (HEnv n p sure whole m d turned af is num den en ed df dx more) = some (lat af is) := by
  unfold HEnv
  rw [lk_skip (sne (by decide)), lk_skip (sne (by decide)), lk_skip (sne (by decide)), lk_skip (sne (by decide)), lk_skip (sne (by decide)), lk_skip (sne (by decide)), lk_skip (sne (by decide)), lk_here]
theorem henv_more {n p : Nat} {sure : Int} {whole m d turned : Nat} {af : Addr} {is : List D} {num den en ed : Nat} {df dx : D} {l1 l2 : D} {z : Int} : lk (Str.ofString "a") (HEnv n p sure whole m d turned af is num den en ed df dx [(Str.ofString "low", l1), (Str.ofString "high", l2), (Str.ofString "a", .int z)]) = some (.int z) := by
  unfold HEnv
  repeat rw [lk_skip (sne (by decide))]
  exact lk_here
theorem henv_up {n p : Nat} {sure : Int} {whole m d turned : Nat} {af : Addr} {is is' : List D} {num den en ed : Nat} {df dx : D} {more : Ev} : up (Str.ofString "figures") (lat af is') (HEnv n p sure whole m d turned af is num den en ed df dx more) = HEnv n p sure whole m d turned af is' num den en ed df dx more := by
  unfold HEnv
  simp only [up, ofs]
  simp only [↓String.reduceEq, ↓reduceIte]
theorem henv_nl {n p : Nat} {sure : Int} {whole m d turned : Nat} {af : Addr} {is : List D} {num den en ed : Nat} {df dx : D} {l1 l2 l3 : Int} (h1 : nl df = true) (h2 : nl dx = true) :
    ∀ z e, z ≠ Str.ofString "figures" → lk z (HEnv n p sure whole m d turned af is num den en ed df dx [(Str.ofString "low", .int l1), (Str.ofString "high", .int l2), (Str.ofString "a", .int l3)]) = some e → nl e = true := by
  intro z e hz h
  have hm := lk_in h
  unfold HEnv at hm
  simp only [List.mem_cons, List.not_mem_nil, or_false, Prod.mk.injEq] at hm
  rcases hm with ⟨_, rfl⟩ | ⟨_, rfl⟩ | ⟨_, rfl⟩ | ⟨_, rfl⟩ | ⟨_, rfl⟩ | ⟨_, rfl⟩ | ⟨_, rfl⟩ | ⟨q, _⟩ | ⟨_, rfl⟩ | ⟨_, rfl⟩ | ⟨_, rfl⟩ | ⟨_, rfl⟩ | ⟨_, rfl⟩ | ⟨_, rfl⟩ | ⟨_, rfl⟩ | ⟨_, rfl⟩ | ⟨_, rfl⟩
  all_goals first | rfl | assumption | exact absurd q hz
theorem fig_append (w : World) {A : Around} {s : Shared} {H : Heap} {L fa : Addr} {nm : Str} {cd : Value} {sc : Scope} {Q : Flow → Shared → Prop} {E : Value → Shared → Prop} {n p : Nat} {sure : Int} {whole m d turned : Nat} {af : Addr} {is : List D} {num den en ed z : Nat} {df dx : D} {i1 i2 i3 i4 i5 : PySem.Pos}
    (I : Inn (KK w) H L sc (HEnv n p sure whole m d turned af is num den en ed df dx [(Str.ofString "low", .int z), (Str.ofString "high", .int z), (Str.ofString "a", .int z)]) s)
    (hline : (i2.endLine == i4.line) = true) (fresh : H.get? af = none) (hn : nls is = true) (h1 : nl df = true) (h2 : nl dx = true) (hsz : is.length ≤ 1000)
    (hq : ∀ s', Inn (KK w) H L sc (HEnv n p sure whole m d turned af (is ++ [.int z]) num den en ed df dx [(Str.ofString "low", .int z), (Str.ofString "high", .int z), (Str.ofString "a", .int z)]) s' → (∀ b o, b ≠ af → s.heap.get? b = some o → s'.heap.get? b = some o) → (∃ h t, s' = { s with heap := h, toks := t }) → Q .next s') :
    wpAny (model PP w) A (exec (.Expr (.Call (.Attribute (.Name (Str.ofString "figures") i1) (Str.ofString "append") i2) [.Name (Str.ofString "a") i3] [] i4) i5) (envOf nm sc L fa cd)) Q E s :=
  append_stmt I henv_fig henv_more (by decide) (by decide) hline fresh hn (henv_nl h1 h2) hsz fun s' I' k lkk => hq s' (by rw [henv_up] at I'; exact I') k lkk
theorem body_turn (w : World) {A : Around} {s s' : Shared} {l : List Env} {H : Heap} {L : Addr} {nm : Str} {cd : Value} {n p : Nat} {sure : Int} {whole : Nat} {af : Addr} {df : D} {k : Nat} {fl' fh : Rat}
    (P : Par n whole p sure) (F : First n p fl' fh df) (hk : k ≤ 6) (fresh : H.get? af = none) (hAF : s.heap.get? af = none) (hL : s.heap.get? L = none) (hst : A.frames = some l) (f : FF l s.heap) (off : Off l H) (hnl : nl df = true)
    (R' : Rm 13 (A.deeper (envOf nm (fscope (KK w) 312) L 312 cd))) (hh : Head w n p sure whole af df H L s k s') :
    wpAny (model PP w) (A.deeper (envOf nm (fscope (KK w) 312) L 312 cd)) (execs (wbody (fbody (KK w) 312) 5) (envOf nm (fscope (KK w) 312) L 312 cd))
      (fun fl s₂ => (fl = .brk ∧ Done w n p sure whole af df H L s s₂) ∨ (fl = .next ∧ Head w n p sure whole af df H L s (k + 1) s₂)) (fun _ _ => False) s' := by
  obtain ⟨m, d, num, en, den, ed, lo, hi, rf, dx, I, R, px, ch, hlen, ho⟩ := hh
  rw [← List.take_append_drop 5 (wbody _ _)]
  refine wps_then (gok w) _ _ _ (seg1 w P R px) _ _ _ _ _ _ _ _ _ _ R' I fun flw s₂ o hor hf₂ lkk => ?_
  have ho2 := ho.step lkk hL
  rcases hor with ⟨zl, zh, hne, g1, g2, g3, g4, rfl⟩ | ⟨z, hz, g1, g2, g3, g4, rfl⟩
  · cases flw <;> first | exact (hf₂ : False).elim | skip
    refine .inl ⟨rfl, rf.reverse, k, m, d, lo, hi, dx, (show Inn _ _ _ _ _ s₂ from hf₂).weak aenv_head, by simp [hlen], by simp [hlen]; omega, ?_, R.cut, R.l1, R.l2, R.h1, R.h2, px, ?_, ho2⟩
    · rw [List.take_of_length_le (by simp [hlen]), List.reverse_reverse]; exact ch
    · rw [List.length_reverse, hlen]; exact R.exit1 P g1 g2 g3 g4 hne
  · cases flw <;> first | exact (hf₂ : False).elim | skip
    obtain ⟨m', d', e1, a1, m1, hmw, hn, hdw, _⟩ := R.fs.step
    rw [← hz] at e1 a1
    have I₂ : Inn _ _ _ _ _ s₂ := hf₂
    have hd := R.fs.d1
    have hlh := R.cut.le (Rat.natCast_pos.mpr hd)
    show wpAny _ _ (execs (List.drop 5 (wbody (fbody (KK w) 312) 5)) _) _ _ _
    (conv => arg 3; arg 1; arg 2; whnf)
    simp only [List.drop_succ_cons, List.drop_zero]
    obtain ⟨xa, xb, rfl, ⟨ma, ea, ⟨rfl, hoa, hba⟩, hva⟩, ⟨mb, eb, ⟨rfl, hob, hbb⟩, hvb⟩⟩ := id px
    have hlk : (nts rf.reverse).length = k := by simp [nts, hlen]
    refine wpAny_execs_cons (fig_append w I₂ rfl fresh (nls_nts _) hnl rfl (by omega) fun s₃ I₃' keep₃ lk₃ => ?_)
    have ho3 : Hold s s₃ := ⟨fun b o e q => by
      obtain ⟨sl, h⟩ := ho2.up b o e q
      exact ⟨sl, keep₃ b _ (fun zz => by rw [zz, hAF] at e; cases e) h⟩, like_sh ho2.like lk₃⟩
    show wpAny _ _ (execs (List.take 7 (List.drop 6 (wbody (fbody (KK w) 312) 5)) ++ List.drop 13 (wbody (fbody (KK w) 312) 5)) _) _ _ _
    refine wps_then (gok w) _ _ _ (seg2 w (turned := k) (af := af) (is := nts rf.reverse) (df := df) (dx := .tuple [fl 0 ma ea (bl ma), fl 0 mb eb (bl mb)]) (l1 := .int z) (l2 := .int z) P R hz e1 hn a1 hmw hk hlk) _ _ _ _ _ _ _ _ _ _ R' I₃' fun flw s₄ o hor hf₄ lk₄ => ?_
    obtain ⟨top, foot, nrm, htop, hfoot, rfl⟩ := hor
    cases flw <;> first | exact (hf₄ : False).elim | skip
    have I₄ : Inn _ _ _ _ _ s₄ := hf₄
    have ho4 := ho3.step lk₄ hL
    show wpAny _ _ (execs (List.drop 13 (wbody (fbody (KK w) 312) 5)) _) _ _ _
    (conv => arg 3; arg 1; arg 2; whnf)
    simp only [List.drop_succ_cons, List.drop_zero]
    have aB := R.aB P
    rw [← hz] at aB
    have k400 : ∀ {x : Nat}, x ≤ 2 ^ (52 * (k + 1)) → bl x ≤ 400 := fun h => Nat.le_trans (bl_pow h) (by omega)
    have hnum : 0 < z * num + en := by have := R.pos.1; have := Nat.mul_le_mul a1 this; omega
    have hden : 0 < z * den + ed := by have := R.pos.2; have := Nat.mul_le_mul_right den a1; omega
    refine wpAny_execs_cons (beside_stmt w hst (f.up ho4.up) off I₄ R' P.p4 P.p119 (bl_le.mpr P.n2) F htop hfoot hnum hden (k400 (pow52 aB R.b1 R.b2)) (k400 (pow52 aB R.b3 R.b4)) fun s₅ x₅ I₅ => ?_)
    have ho5 := ho4.exu x₅
    show wpAny _ _ (execs (List.drop 14 (wbody (fbody (KK w) 312) 5)) _) _ _ _
    refine wpAny_mono (wps_sound (n := 13) (gok w) _ _ _ (seg3 w P.p4 P.p119 px a1 (bl_le.mpr (by omega)) g1 g2 g3 g4 hlh R.l1 R.l2 R.h1 R.h2) _ _ _ _ _ _ _ (fun fl s₂ => (fl = .brk ∧ Done w n p sure whole af df H L s s₂) ∨ (fl = .next ∧ Head w n p sure whole af df H L s (k + 1) s₂)) R' I₅ fun f6 s₆ o6 hor6 hf6 lk6 => ?_) (fun _ _ x => x) (fun _ _ x => x.elim)
    have ho6 := ho5.step lk6 hL
    have enx : nts rf.reverse ++ [PyData.int z] = nts (z :: rf).reverse := by simp [nts]
    rcases hor6 with ⟨rest, hlo, rfl⟩ | ⟨rest, dx', rl, rh, lo', hi', lt, R1, R2, R3, R4, hrl, hrh, PX, rfl⟩
    · cases f6 <;> first | exact (hf6 : False).elim | skip
      have I₆ : Inn _ _ _ _ _ s₆ := hf6
      rw [enx] at I₆
      refine .inl ⟨rfl, (z :: rf).reverse, k, m, d, lo, hi, _, I₆.weak aenv_head, by simp [hlen], by simp [hlen]; omega, ?_, R.cut, R.l1, R.l2, R.h1, R.h2, px, ?_, ho6⟩
      · have : (List.take k (z :: rf).reverse).reverse = rf := by
          rw [List.reverse_cons, List.take_append_of_le_length (by simp [hlen]), List.take_of_length_le (by simp [hlen]), List.reverse_reverse]
        rw [this]; exact ch
      · rw [List.length_reverse, List.length_cons, hlen]
        exact R.exit2 P (by rw [← hz]; exact hlo)
    · cases f6 <;> first | exact (hf6 : False).elim | skip
      have I₆ : Inn _ _ _ _ _ s₆ := hf6
      rw [enx] at I₆
      obtain ⟨m2, d2, e2, hn2, hd2, z2, z1, _, R2'⟩ := R.turn P hz hva (bl_le.mp hba) lt g2 g4 R1 R2 R3 R4 hrl hrh (by obtain ⟨_, _, _, pa, _⟩ := PX; exact pa.pos) (by obtain ⟨_, _, _, _, pb⟩ := PX; exact pb.pos)
      have em : m2 = m' := by omega
      subst em
      have ed2 : d2 = d' := by
        have : d * d2 = d * d' := by omega
        exact Nat.eq_of_mul_eq_mul_left hd this
      subst ed2
      exact .inr ⟨rfl, _, _, _, _, _, _, _, _, z :: rf, _, I₆.head, R2', PX, .cons ch e2 hn2 hd hd2 z1 z2, by simp [hlen], ho6⟩
end Mine

end
section
open PySem PySem.W PyProof.Rows PySem.Calls
set_option maxRecDepth 100000
namespace Mine
theorem r0 (w : World) {n p : Nat} {sure : Int} (hb : bl n ≤ 100) :
    wps PP w (KK w) 13 (fscope (KK w) 312) GT (List.take 1 (fbody (KK w) 312)) ([Str.ofString "n", Str.ofString "p", Str.ofString "sure"].zip ([.int n, .int p, .int sure] ++ [])) (fun o => ∃ r : Nat, r * r ≤ n ∧ n < (r + 1) * (r + 1) ∧
      o = .next ([(Str.ofString "n", .int n), (Str.ofString "p", .int p), (Str.ofString "sure", .int sure), (Str.ofString "whole", .int r)] : Ev)) := by
  (conv => arg 7; arg 2; whnf)
  simp only [List.take_succ_cons, List.take_zero]
  (conv => arg 5; whnf); (conv => arg 8; simp only [List.cons_append, List.nil_append, List.zip_cons_cons, List.zip_nil_left, List.zip_nil_right, List.append_nil]); (conv => arg 6; unfold GT)
  simp only [↓s_nil, ↓s_cons, ↓s_pass, ↓s_brk, ↓s_ret, ↓s_asg, ↓s_tup, ↓s_aug, ↓s_if, ↓s_assert, ↓asg_nil, ↓asg_cons, ↓e_int, ↓e_str, ↓e_bool, ↓e_name, ↓e_bin, ↓e_un, ↓e_bool2, ↓e_if, ↓e_cmp, ↓e_call, ↓e_bits, ↓e_sub, ↓e_tup, ↓t_not, ↓t_bool, ↓t_if, ↓t_cmp, ↓t_name, ↓t_call, ↓t_bin, ↓t_const, ↓t_sub, ↓es_nil, ↓es_cons, ↓b_one, ↓b_and, ↓b_or, ↓a_nil_and, ↓a_nil_or, ↓a_and, ↓a_or, ↓c_one, ↓c_more, ↓d_one, ↓d_more, ↓tupk_tup, ↓intk_int, ↓ksq_next, ↓ksq_ret, ↓ksq_brk, ↓ksq_cont, ↓kdf_ret, ↓kdf_next, ↓klp_next, ↓klp_cont, ↓klp_brk, ↓klp_ret, ↓vl_cons, ↓vl_nil, ↓vg_cons, ↓vl0_cons, ↓upk_nil, ↓upk_cons, ↓bv_add, ↓bv_sub, ↓bv_mul, ↓bv_fdiv, ↓bv_mod, ↓bv_shl, ↓bv_shr, ↓bv_and, ↓bv_xor, ↓bv_pow, ↓av_add, ↓av_sub, ↓av_mul, ↓av_shl, ↓av_shr, ↓av_xor, ↓cv_eq, ↓cv_ne, ↓cv_lt, ↓cv_le, ↓cv_gt, ↓cv_ge, ↓cv_str, ↓cv_tup, ↓cv_in, ↓cv_instr, ↓tr_bool, ↓tr_int, ↓uv_neg, ↓uv_not, ↓br_dec, ↓br_tt, ↓br_ff, ↓br_not, ↓sub2_0, ↓sub2_1, ↓sub4_0, ok_name, ok_call, isG_eq, isL_eq, gk_cons, lc_cons, kg, kl, ↓reduceIte, List.all_cons, List.all_nil, List.isEmpty_cons, nstar, nset, nslice, ncall, ncomp, Bool.and_true, Bool.true_and, Bool.not_false, Bool.not_true, and_true, true_and, ne_eq, not_true, not_false_eq_true, List.length_cons, List.length_nil, ite_not, beq_self_eq_true, decide_false, decide_true, Bool.false_eq_true, ↓String.reduceEq, ↓String.reduceNe, Int.reduceLT, Int.reduceLE, Int.reduceGT, Int.reduceGE, Int.reduceEq, Int.reduceNe, Int.reduceNeg, Int.reduceAdd, Int.reduceSub, Int.reduceMul, Int.reduceToNat, Nat.reduceLT, Nat.reduceLeDiff, Nat.reduceAdd, Nat.reduceMul, Nat.reduceEqDiff]
  refine ⟨known_lroot w, (lroot_spec w hb).mono fun d hd => ?_⟩
  obtain ⟨r, rfl, h1, h2⟩ := hd
  exact ⟨r, h1, h2, rfl⟩
theorem r2 (w : World) {n p whole : Nat} {sure : Int} {af : Addr} (hn : 0 < n) (hb : bl n ≤ 100) (hp : 4 ≤ p) (hp2 : p ≤ 119) :
    wps PP w (KK w) 13 (fscope (KK w) 312) GT (List.take 3 (List.drop 2 (fbody (KK w) 312))) ([(Str.ofString "n", .int n), (Str.ofString "p", .int p), (Str.ofString "sure", .int sure), (Str.ofString "whole", .int whole), (Str.ofString "m", .int 0), (Str.ofString "d", .int 1), (Str.ofString "turned", .int 0), (Str.ofString "figures", lat af [])] : Ev) (fun o => ∃ df lo hi, PI p lo hi df ∧ SDn p n lo ∧ SUp p n hi ∧
      o = .next (HEnv n p sure whole 0 1 0 af [] 1 0 0 1 df df [])) := by
  unfold HEnv
  (conv => arg 7; arg 2; arg 2; whnf)
  simp only [List.drop_succ_cons, List.drop_zero, List.take_succ_cons, List.take_zero]
  (conv => arg 5; whnf); (conv => arg 6; unfold GT)
  simp only [↓s_nil, ↓s_cons, ↓s_pass, ↓s_brk, ↓s_ret, ↓s_asg, ↓s_tup, ↓s_aug, ↓s_if, ↓s_assert, ↓asg_nil, ↓asg_cons, ↓e_int, ↓e_str, ↓e_bool, ↓e_name, ↓e_bin, ↓e_un, ↓e_bool2, ↓e_if, ↓e_cmp, ↓e_call, ↓e_bits, ↓e_sub, ↓e_tup, ↓t_not, ↓t_bool, ↓t_if, ↓t_cmp, ↓t_name, ↓t_call, ↓t_bin, ↓t_const, ↓t_sub, ↓es_nil, ↓es_cons, ↓b_one, ↓b_and, ↓b_or, ↓a_nil_and, ↓a_nil_or, ↓a_and, ↓a_or, ↓c_one, ↓c_more, ↓d_one, ↓d_more, ↓tupk_tup, ↓intk_int, ↓ksq_next, ↓ksq_ret, ↓ksq_brk, ↓ksq_cont, ↓kdf_ret, ↓kdf_next, ↓klp_next, ↓klp_cont, ↓klp_brk, ↓klp_ret, ↓vl_cons, ↓vl_nil, ↓vg_cons, ↓vl0_cons, ↓upk_nil, ↓upk_cons, ↓bv_add, ↓bv_sub, ↓bv_mul, ↓bv_fdiv, ↓bv_mod, ↓bv_shl, ↓bv_shr, ↓bv_and, ↓bv_xor, ↓bv_pow, ↓av_add, ↓av_sub, ↓av_mul, ↓av_shl, ↓av_shr, ↓av_xor, ↓cv_eq, ↓cv_ne, ↓cv_lt, ↓cv_le, ↓cv_gt, ↓cv_ge, ↓cv_str, ↓cv_tup, ↓cv_in, ↓cv_instr, ↓tr_bool, ↓tr_int, ↓uv_neg, ↓uv_not, ↓br_dec, ↓br_tt, ↓br_ff, ↓br_not, ↓sub2_0, ↓sub2_1, ↓sub4_0, ok_name, ok_call, isG_eq, isL_eq, gk_cons, lc_cons, kg, kl, ↓reduceIte, List.all_cons, List.all_nil, List.isEmpty_cons, nstar, nset, nslice, ncall, ncomp, Bool.and_true, Bool.true_and, Bool.not_false, Bool.not_true, and_true, true_and, ne_eq, not_true, not_false_eq_true, List.length_cons, List.length_nil, ite_not, beq_self_eq_true, decide_false, decide_true, Bool.false_eq_true, ↓String.reduceEq, ↓String.reduceNe, Int.reduceLT, Int.reduceLE, Int.reduceGT, Int.reduceGE, Int.reduceEq, Int.reduceNe, Int.reduceNeg, Int.reduceAdd, Int.reduceSub, Int.reduceMul, Int.reduceToNat, Nat.reduceLT, Nat.reduceLeDiff, Nat.reduceAdd, Nat.reduceMul, Nat.reduceEqDiff]
  refine ⟨by decide +kernel, known_isqrt2 w, known_point w, (point_spec w hn).mono fun pt hpt => ?_⟩
  obtain ⟨xa, xb, rfl, ha, hb'⟩ := hpt
  refine (misqrt_spec w hn hb (by omega) (by omega) ha hb').mono fun df hd => ?_
  obtain ⟨lo, hi, px, s1, s2⟩ := hd
  exact ⟨df, lo, hi, px, s1, s2, rfl⟩
theorem rIf (w : World) {n p whole t : Nat} {sure : Int} {af : Addr} {is : List Nat} {df dx : D} (hw : whole * whole ≤ n) (hb : bl n ≤ 100) (hl : is.length ≤ 7) (h : ¬ (is.length : Int) < need n whole sure) :
    wps PP w (KK w) 13 (fscope (KK w) 312) GT (List.take 1 (List.drop 6 (fbody (KK w) 312))) (AEnv n p sure whole t af (nts is) df dx) (fun o => o = .next (AEnv n p sure whole t af (nts is) df dx)) := by
  have bw : bl whole ≤ 100 := Nat.le_trans (bl_mono (Nat.le_trans (Nat.le_mul_self whole) hw)) hb
  have ok : IntMulOk whole whole := ok_mul (ab_up (ab_nat bw) (by decide)) (ab_up (ab_nat bw) (by decide))
  have hlen : (nts is).length = is.length := by simp [nts]
  have c1 : ((whole : Int) * whole = n) = (whole * whole = n) := by
    rw [← Int.natCast_mul]; exact propext Int.ofNat_inj
  unfold need at h
  unfold AEnv
  (conv => arg 7; arg 2; arg 2; whnf)
  simp only [List.drop_succ_cons, List.drop_zero, List.take_succ_cons, List.take_zero]
  (conv => arg 5; whnf); (conv => arg 6; unfold GT)
  simp only [↓s_nil, ↓s_cons, ↓s_pass, ↓s_brk, ↓s_ret, ↓s_asg, ↓s_tup, ↓s_aug, ↓s_if, ↓s_assert, ↓asg_nil, ↓asg_cons, ↓e_int, ↓e_str, ↓e_bool, ↓e_name, ↓e_bin, ↓e_un, ↓e_bool2, ↓e_if, ↓e_cmp, ↓e_call, ↓e_bits, ↓e_sub, ↓e_tup, ↓t_not, ↓t_bool, ↓t_if, ↓t_cmp, ↓t_name, ↓t_call, ↓t_bin, ↓t_const, ↓t_sub, ↓es_nil, ↓es_cons, ↓b_one, ↓b_and, ↓b_or, ↓a_nil_and, ↓a_nil_or, ↓a_and, ↓a_or, ↓c_one, ↓c_more, ↓d_one, ↓d_more, ↓tupk_tup, ↓intk_int, ↓ksq_next, ↓ksq_ret, ↓ksq_brk, ↓ksq_cont, ↓kdf_ret, ↓kdf_next, ↓klp_next, ↓klp_cont, ↓klp_brk, ↓klp_ret, ↓vl_cons, ↓vl_nil, ↓vg_cons, ↓vl0_cons, ↓upk_nil, ↓upk_cons, ↓bv_add, ↓bv_sub, ↓bv_mul, ↓bv_fdiv, ↓bv_mod, ↓bv_shl, ↓bv_shr, ↓bv_and, ↓bv_xor, ↓bv_pow, ↓av_add, ↓av_sub, ↓av_mul, ↓av_shl, ↓av_shr, ↓av_xor, ↓cv_eq, ↓cv_ne, ↓cv_lt, ↓cv_le, ↓cv_gt, ↓cv_ge, ↓cv_str, ↓cv_tup, ↓cv_in, ↓cv_instr, ↓tr_bool, ↓tr_int, ↓uv_neg, ↓uv_not, ↓br_dec, ↓br_tt, ↓br_ff, ↓br_not, ↓sub2_0, ↓sub2_1, ↓sub4_0, ok_name, ok_call, isG_eq, isL_eq, gk_cons, lc_cons, kg, kl, ↓reduceIte, List.all_cons, List.all_nil, List.isEmpty_cons, nstar, nset, nslice, ncall, ncomp, Bool.and_true, Bool.true_and, Bool.not_false, Bool.not_true, and_true, true_and, ne_eq, not_true, not_false_eq_true, List.length_cons, List.length_nil, ite_not, beq_self_eq_true, decide_false, decide_true, Bool.false_eq_true, ↓String.reduceEq, ↓String.reduceNe, Int.reduceLT, Int.reduceLE, Int.reduceGT, Int.reduceGE, Int.reduceEq, Int.reduceNe, Int.reduceNeg, Int.reduceAdd, Int.reduceSub, Int.reduceMul, Int.reduceToNat, Nat.reduceLT, Nat.reduceLeDiff, Nat.reduceAdd, Nat.reduceMul, Nat.reduceEqDiff, ok, c1]
  refine ⟨known_len w, (len_spec w (by omega)).mono fun v hv => ?_⟩
  subst hv
  rw [hlen]
  split
  · rename_i hs
    rw [if_pos hs] at h
    refine ⟨known_min w, (min_spec w 1 sure).mono fun v hv => ?_⟩
    subst hv
    simp only [↓s_nil, ↓s_cons, ↓s_pass, ↓s_brk, ↓s_ret, ↓s_asg, ↓s_tup, ↓s_aug, ↓s_if, ↓s_assert, ↓asg_nil, ↓asg_cons, ↓e_int, ↓e_str, ↓e_bool, ↓e_name, ↓e_bin, ↓e_un, ↓e_bool2, ↓e_if, ↓e_cmp, ↓e_call, ↓e_bits, ↓e_sub, ↓e_tup, ↓t_not, ↓t_bool, ↓t_if, ↓t_cmp, ↓t_name, ↓t_call, ↓t_bin, ↓t_const, ↓t_sub, ↓es_nil, ↓es_cons, ↓b_one, ↓b_and, ↓b_or, ↓a_nil_and, ↓a_nil_or, ↓a_and, ↓a_or, ↓c_one, ↓c_more, ↓d_one, ↓d_more, ↓tupk_tup, ↓intk_int, ↓ksq_next, ↓ksq_ret, ↓ksq_brk, ↓ksq_cont, ↓kdf_ret, ↓kdf_next, ↓klp_next, ↓klp_cont, ↓klp_brk, ↓klp_ret, ↓vl_cons, ↓vl_nil, ↓vg_cons, ↓vl0_cons, ↓upk_nil, ↓upk_cons, ↓bv_add, ↓bv_sub, ↓bv_mul, ↓bv_fdiv, ↓bv_mod, ↓bv_shl, ↓bv_shr, ↓bv_and, ↓bv_xor, ↓bv_pow, ↓av_add, ↓av_sub, ↓av_mul, ↓av_shl, ↓av_shr, ↓av_xor, ↓cv_eq, ↓cv_ne, ↓cv_lt, ↓cv_le, ↓cv_gt, ↓cv_ge, ↓cv_str, ↓cv_tup, ↓cv_in, ↓cv_instr, ↓tr_bool, ↓tr_int, ↓uv_neg, ↓uv_not, ↓br_dec, ↓br_tt, ↓br_ff, ↓br_not, ↓sub2_0, ↓sub2_1, ↓sub4_0, ok_name, ok_call, isG_eq, isL_eq, gk_cons, lc_cons, kg, kl, ↓reduceIte, List.all_cons, List.all_nil, List.isEmpty_cons, nstar, nset, nslice, ncall, ncomp, Bool.and_true, Bool.true_and, Bool.not_false, Bool.not_true, and_true, true_and, ne_eq, not_true, not_false_eq_true, List.length_cons, List.length_nil, ite_not, beq_self_eq_true, decide_false, decide_true, Bool.false_eq_true, ↓String.reduceEq, ↓String.reduceNe, Int.reduceLT, Int.reduceLE, Int.reduceGT, Int.reduceGE, Int.reduceEq, Int.reduceNe, Int.reduceNeg, Int.reduceAdd, Int.reduceSub, Int.reduceMul, Int.reduceToNat, Nat.reduceLT, Nat.reduceLeDiff, Nat.reduceAdd, Nat.reduceMul, Nat.reduceEqDiff]
    rw [if_neg h]
    trivial
  · rename_i hs
    rw [if_neg hs] at h
    simp only [↓s_nil, ↓s_cons, ↓s_pass, ↓s_brk, ↓s_ret, ↓s_asg, ↓s_tup, ↓s_aug, ↓s_if, ↓s_assert, ↓asg_nil, ↓asg_cons, ↓e_int, ↓e_str, ↓e_bool, ↓e_name, ↓e_bin, ↓e_un, ↓e_bool2, ↓e_if, ↓e_cmp, ↓e_call, ↓e_bits, ↓e_sub, ↓e_tup, ↓t_not, ↓t_bool, ↓t_if, ↓t_cmp, ↓t_name, ↓t_call, ↓t_bin, ↓t_const, ↓t_sub, ↓es_nil, ↓es_cons, ↓b_one, ↓b_and, ↓b_or, ↓a_nil_and, ↓a_nil_or, ↓a_and, ↓a_or, ↓c_one, ↓c_more, ↓d_one, ↓d_more, ↓tupk_tup, ↓intk_int, ↓ksq_next, ↓ksq_ret, ↓ksq_brk, ↓ksq_cont, ↓kdf_ret, ↓kdf_next, ↓klp_next, ↓klp_cont, ↓klp_brk, ↓klp_ret, ↓vl_cons, ↓vl_nil, ↓vg_cons, ↓vl0_cons, ↓upk_nil, ↓upk_cons, ↓bv_add, ↓bv_sub, ↓bv_mul, ↓bv_fdiv, ↓bv_mod, ↓bv_shl, ↓bv_shr, ↓bv_and, ↓bv_xor, ↓bv_pow, ↓av_add, ↓av_sub, ↓av_mul, ↓av_shl, ↓av_shr, ↓av_xor, ↓cv_eq, ↓cv_ne, ↓cv_lt, ↓cv_le, ↓cv_gt, ↓cv_ge, ↓cv_str, ↓cv_tup, ↓cv_in, ↓cv_instr, ↓tr_bool, ↓tr_int, ↓uv_neg, ↓uv_not, ↓br_dec, ↓br_tt, ↓br_ff, ↓br_not, ↓sub2_0, ↓sub2_1, ↓sub4_0, ok_name, ok_call, isG_eq, isL_eq, gk_cons, lc_cons, kg, kl, ↓reduceIte, List.all_cons, List.all_nil, List.isEmpty_cons, nstar, nset, nslice, ncall, ncomp, Bool.and_true, Bool.true_and, Bool.not_false, Bool.not_true, and_true, true_and, ne_eq, not_true, not_false_eq_true, List.length_cons, List.length_nil, ite_not, beq_self_eq_true, decide_false, decide_true, Bool.false_eq_true, ↓String.reduceEq, ↓String.reduceNe, Int.reduceLT, Int.reduceLE, Int.reduceGT, Int.reduceGE, Int.reduceEq, Int.reduceNe, Int.reduceNeg, Int.reduceAdd, Int.reduceSub, Int.reduceMul, Int.reduceToNat, Nat.reduceLT, Nat.reduceLeDiff, Nat.reduceAdd, Nat.reduceMul, Nat.reduceEqDiff]
    rw [if_neg h]
    trivial
/-- what stands while folding -/
def FoldP (n p : Nat) (sure : Int) (whole t : Nat) (af : Addr) (is : List D) (df : D) (rf : List Nat) (i : Nat) (ρ : Ev) : Prop :=
  ∃ (dx : D) (lo hi : Rat) (m d : Nat), (ρ = AEnv n p sure whole t af is df dx ∨ ∃ e, ρ = AEnv n p sure whole t af is df dx ++ [(Str.ofString "a", e)]) ∧ Ch n p (rf.drop i) m d ∧ CutR lo hi m d n ∧ 1 ≤ lo ∧ lo ≤ pw 200 ∧ 1 ≤ hi ∧ hi ≤ pw 200 ∧ PI p lo hi dx
theorem rFold (w : World) {n p whole t : Nat} {sure : Int} {af : Addr} {is : List D} {df : D} {rf : List Nat} (hp : 4 ≤ p) (hp2 : p ≤ 119) (hn : 1 ≤ n) (i : Nat) (d : D) (ρ : Ev) (hd : (nts rf)[i]? = some d) (hP : FoldP n p sure whole t af is df rf i ρ) :
    wps PP w (KK w) 13 (fscope (KK w) 312) GT (wbody (fbody (KK w) 312) 7) (up (Str.ofString "a") d ρ) (fun o => ∃ ρ3, o = .next ρ3 ∧ FoldP n p sure whole t af is df rf (i + 1) ρ3) := by
  obtain ⟨dx, lo, hi, m, dd, hρ, ch, C, l1, l2, h1, h2, px⟩ := hP
  obtain ⟨a, ha, rfl⟩ : ∃ a, rf[i]? = some a ∧ d = .int (a : Nat) := by
    unfold nts at hd
    rw [List.getElem?_map] at hd
    cases hr : rf[i]? with
    | none => rw [hr] at hd; cases hd
    | some a => rw [hr] at hd; cases hd; exact ⟨a, rfl, rfl⟩
  have hdr : rf.drop i = a :: rf.drop (i + 1) := by
    obtain ⟨hlt, e⟩ := List.getElem?_eq_some_iff.mp ha
    rw [List.drop_eq_getElem_cons hlt, e]
  rw [hdr] at ch
  have hup : up (Str.ofString "a") (.int (a : Nat)) ρ = AEnv n p sure whole t af is df dx ++ [(Str.ofString "a", .int (a : Nat))] := by
    rcases hρ with rfl | ⟨e, rfl⟩ <;>
    · unfold AEnv
      simp only [List.cons_append, List.nil_append, up, ofs]
      simp only [↓String.reduceEq, ↓reduceIte]
  rw [hup]
  cases ch with
  | @cons _ m0 d0 _ _ _ ch' e1 e2 hd0 hd1 ha1 ha2 =>
  have hba : bl a ≤ p := bl_le.mpr ha2
  have a0 : 0 < a := ha1
  unfold AEnv
  (conv => arg 7; whnf)
  (conv => arg 5; whnf); (conv => arg 8; simp only [List.cons_append, List.nil_append]); (conv => arg 6; unfold GT)
  simp only [↓s_nil, ↓s_cons, ↓s_pass, ↓s_brk, ↓s_ret, ↓s_asg, ↓s_tup, ↓s_aug, ↓s_if, ↓s_assert, ↓asg_nil, ↓asg_cons, ↓e_int, ↓e_str, ↓e_bool, ↓e_name, ↓e_bin, ↓e_un, ↓e_bool2, ↓e_if, ↓e_cmp, ↓e_call, ↓e_bits, ↓e_sub, ↓e_tup, ↓t_not, ↓t_bool, ↓t_if, ↓t_cmp, ↓t_name, ↓t_call, ↓t_bin, ↓t_const, ↓t_sub, ↓es_nil, ↓es_cons, ↓b_one, ↓b_and, ↓b_or, ↓a_nil_and, ↓a_nil_or, ↓a_and, ↓a_or, ↓c_one, ↓c_more, ↓d_one, ↓d_more, ↓tupk_tup, ↓intk_int, ↓ksq_next, ↓ksq_ret, ↓ksq_brk, ↓ksq_cont, ↓kdf_ret, ↓kdf_next, ↓klp_next, ↓klp_cont, ↓klp_brk, ↓klp_ret, ↓vl_cons, ↓vl_nil, ↓vg_cons, ↓vl0_cons, ↓upk_nil, ↓upk_cons, ↓bv_add, ↓bv_sub, ↓bv_mul, ↓bv_fdiv, ↓bv_mod, ↓bv_shl, ↓bv_shr, ↓bv_and, ↓bv_xor, ↓bv_pow, ↓av_add, ↓av_sub, ↓av_mul, ↓av_shl, ↓av_shr, ↓av_xor, ↓cv_eq, ↓cv_ne, ↓cv_lt, ↓cv_le, ↓cv_gt, ↓cv_ge, ↓cv_str, ↓cv_tup, ↓cv_in, ↓cv_instr, ↓tr_bool, ↓tr_int, ↓uv_neg, ↓uv_not, ↓br_dec, ↓br_tt, ↓br_ff, ↓br_not, ↓sub2_0, ↓sub2_1, ↓sub4_0, ok_name, ok_call, isG_eq, isL_eq, gk_cons, lc_cons, kg, kl, ↓reduceIte, List.all_cons, List.all_nil, List.isEmpty_cons, nstar, nset, nslice, ncall, ncomp, Bool.and_true, Bool.true_and, Bool.not_false, Bool.not_true, and_true, true_and, ne_eq, not_true, not_false_eq_true, List.length_cons, List.length_nil, ite_not, beq_self_eq_true, decide_false, decide_true, Bool.false_eq_true, ↓String.reduceEq, ↓String.reduceNe, Int.reduceLT, Int.reduceLE, Int.reduceGT, Int.reduceGE, Int.reduceEq, Int.reduceNe, Int.reduceNeg, Int.reduceAdd, Int.reduceSub, Int.reduceMul, Int.reduceToNat, Nat.reduceLT, Nat.reduceLeDiff, Nat.reduceAdd, Nat.reduceMul, Nat.reduceEqDiff]
  refine ⟨known_iadd w, known_point w, (point_spec w a0).mono fun pt hpt => ?_⟩
  refine ⟨known_idiv w, ?_⟩
  have D := idiv_spec w (p := p) (by omega) (by omega) (by omega) (by omega) pi_one px
  unfold fl at D
  refine D.mono fun q hq => ?_
  obtain ⟨ql, qh, pq, R1, R2⟩ := hq
  have hql : 0 < ql := by obtain ⟨_, _, _, x, _⟩ := pq; exact x.pos
  have hqh : 0 < qh := by obtain ⟨_, _, _, _, x⟩ := pq; exact x.pos
  have hlo0 : 0 < lo := by grind
  have hhi0 : 0 < hi := by grind
  have p200 := pw_pos 200
  have inv_lo : ∀ {r : Rat}, 0 < r → r ≤ pw 200 → pw (-200) ≤ 1 / r := fun {r} hr h => le_inv hr (by
    have h3 := Rat.mul_le_mul_of_nonneg_left h (Rat.le_of_lt (pw_pos (-200)))
    rw [pw_mul_neg 200] at h3; exact h3)
  have inv_hi : ∀ {r : Rat}, 1 ≤ r → 1 / r ≤ 1 := fun {r} h => inv_le (by grind) (by grind)
  have s1 : Sz ql := by
    have x1 := R1.ge_pw (by omega) (inv_lo hhi0 h2)
    have x2 := R1.le
    have x3 := inv_hi h1
    refine sz_of ?_ ?_
    · have := pw_mono (show (-1000 : Int) ≤ -200 by decide); grind
    · have := pw_mono (show (0 : Int) ≤ 1000 by decide); rw [pw_zero] at this; grind
  have s2 : Sz qh := by
    have x1 := R2.le
    have x2 := inv_lo hlo0 l2
    have x3 := R2.le_pw (k := 0) (by omega) (by rw [pw_zero]; exact inv_hi l1)
    refine sz_of ?_ ?_
    · have := pw_mono (show (-1000 : Int) ≤ -200 by decide); grind
    · have := pw_mono (show (0 : Int) ≤ 1000 by decide); grind
  have sa : Sz (a : Rat) := sz_of (one_ge (nat_ge1 a0)) (nat_pw (show bl a ≤ 200 by omega) (by decide))
  refine (iadd_spec w (by omega) (by omega) (hpt.pi a0 hba) pq sa sa s1 s2).mono fun dx' hd' => ?_
  obtain ⟨lo', hi', px', R3, R4⟩ := hd'
  obtain ⟨C', b1, b2, b3, b4⟩ := fold_step (p := p) (by omega) (by omega) hn C e1 e2 hd0 hd1 ha1 ha2 l1 h1 R1 R2 R3 R4 hql hqh
  exact ⟨_, rfl, dx', lo', hi', _, _, .inr ⟨_, rfl⟩, ch', C', b1, b2, b3, b4, px'⟩
theorem rRet (w : World) {n p whole t : Nat} {sure : Int} {af : Addr} {is : List D} {df dx : D} {lo hi fl' fh : Rat} {more : Ev} (hp : 4 ≤ p) (hp2 : p ≤ 119) (hb : bl n ≤ 100) (F : First n p fl' fh df) (px : PI p lo hi dx) (C : CutR lo hi (0 : Nat) (1 : Nat) n)
    (l1 : 1 ≤ lo) (l2 : lo ≤ pw 200) (h1 : 1 ≤ hi) (h2 : hi ≤ pw 200) :
    wps PP w (KK w) 13 (fscope (KK w) 312) GT (List.drop 8 (fbody (KK w) 312)) (AEnv n p sure whole t af is df dx ++ more) (fun o => o = .ret (.bool true)) := by
  have c1 := C.1
  have c2 := C.2
  push_cast at c1 c2
  have q1 : (lo ≤ fh) := by
    have x1 : lo * lo ≤ n := by rcases c1 with z | z <;> grind
    have := F.sq2; have := F.a3
    exact sq_le (by grind) (by grind)
  have q2 : (fl' ≤ hi) := by
    have := F.sq1
    exact sq_le (by grind) (by grind)
  have LH := lholds_spec w (m := 0) (d := 1) (show p ≤ 200 by omega) px (one_ge l1) (pw_up l2 (by decide)) (one_ge h1) (pw_up h2 (by decide)) (by rw [bl_zero]; omega) (by rw [bl_one]; omega) (show bl n ≤ 200 by omega) C
  obtain ⟨xa, xb, rfl, pa, pb⟩ := px
  obtain ⟨fa, fb, rfl, ga, gb⟩ := F.pi
  have L1 := le_spec w (by omega) (by omega) pa gb (sz_of (one_ge l1) (pw_up l2 (by decide))) (sz_of (one_ge F.a3) (pw_up F.a4 (by decide)))
  have L2 := le_spec w (by omega) (by omega) ga pb (sz_of (one_ge F.a1) (pw_up F.a2 (by decide))) (sz_of (one_ge h1) (pw_up h2 (by decide)))
  unfold AEnv
  (conv => arg 7; arg 2; whnf)
  simp only [List.drop_succ_cons, List.drop_zero]
  (conv => arg 5; whnf); (conv => arg 8; simp only [List.cons_append, List.nil_append]); (conv => arg 6; unfold GT)
  simp only [↓s_nil, ↓s_cons, ↓s_pass, ↓s_brk, ↓s_ret, ↓s_asg, ↓s_tup, ↓s_aug, ↓s_if, ↓s_assert, ↓asg_nil, ↓asg_cons, ↓e_int, ↓e_str, ↓e_bool, ↓e_name, ↓e_bin, ↓e_un, ↓e_bool2, ↓e_if, ↓e_cmp, ↓e_call, ↓e_bits, ↓e_sub, ↓e_tup, ↓t_not, ↓t_bool, ↓t_if, ↓t_cmp, ↓t_name, ↓t_call, ↓t_bin, ↓t_const, ↓t_sub, ↓es_nil, ↓es_cons, ↓b_one, ↓b_and, ↓b_or, ↓a_nil_and, ↓a_nil_or, ↓a_and, ↓a_or, ↓c_one, ↓c_more, ↓d_one, ↓d_more, ↓tupk_tup, ↓intk_int, ↓ksq_next, ↓ksq_ret, ↓ksq_brk, ↓ksq_cont, ↓kdf_ret, ↓kdf_next, ↓klp_next, ↓klp_cont, ↓klp_brk, ↓klp_ret, ↓vl_cons, ↓vl_nil, ↓vg_cons, ↓vl0_cons, ↓upk_nil, ↓upk_cons, ↓bv_add, ↓bv_sub, ↓bv_mul, ↓bv_fdiv, ↓bv_mod, ↓bv_shl, ↓bv_shr, ↓bv_and, ↓bv_xor, ↓bv_pow, ↓av_add, ↓av_sub, ↓av_mul, ↓av_shl, ↓av_shr, ↓av_xor, ↓cv_eq, ↓cv_ne, ↓cv_lt, ↓cv_le, ↓cv_gt, ↓cv_ge, ↓cv_str, ↓cv_tup, ↓cv_in, ↓cv_instr, ↓tr_bool, ↓tr_int, ↓uv_neg, ↓uv_not, ↓br_dec, ↓br_tt, ↓br_ff, ↓br_not, ↓sub2_0, ↓sub2_1, ↓sub4_0, ok_name, ok_call, isG_eq, isL_eq, gk_cons, lc_cons, kg, kl, ↓reduceIte, List.all_cons, List.all_nil, List.isEmpty_cons, nstar, nset, nslice, ncall, ncomp, Bool.and_true, Bool.true_and, Bool.not_false, Bool.not_true, and_true, true_and, ne_eq, not_true, not_false_eq_true, List.length_cons, List.length_nil, ite_not, beq_self_eq_true, decide_false, decide_true, Bool.false_eq_true, ↓String.reduceEq, ↓String.reduceNe, Int.reduceLT, Int.reduceLE, Int.reduceGT, Int.reduceGE, Int.reduceEq, Int.reduceNe, Int.reduceNeg, Int.reduceAdd, Int.reduceSub, Int.reduceMul, Int.reduceToNat, Nat.reduceLT, Nat.reduceLeDiff, Nat.reduceAdd, Nat.reduceMul, Nat.reduceEqDiff]
  refine ⟨known_lholds w, LH.mono fun v hv => ?_⟩
  subst hv
  simp only [↓s_nil, ↓s_cons, ↓s_pass, ↓s_brk, ↓s_ret, ↓s_asg, ↓s_tup, ↓s_aug, ↓s_if, ↓s_assert, ↓asg_nil, ↓asg_cons, ↓e_int, ↓e_str, ↓e_bool, ↓e_name, ↓e_bin, ↓e_un, ↓e_bool2, ↓e_if, ↓e_cmp, ↓e_call, ↓e_bits, ↓e_sub, ↓e_tup, ↓t_not, ↓t_bool, ↓t_if, ↓t_cmp, ↓t_name, ↓t_call, ↓t_bin, ↓t_const, ↓t_sub, ↓es_nil, ↓es_cons, ↓b_one, ↓b_and, ↓b_or, ↓a_nil_and, ↓a_nil_or, ↓a_and, ↓a_or, ↓c_one, ↓c_more, ↓d_one, ↓d_more, ↓tupk_tup, ↓intk_int, ↓ksq_next, ↓ksq_ret, ↓ksq_brk, ↓ksq_cont, ↓kdf_ret, ↓kdf_next, ↓klp_next, ↓klp_cont, ↓klp_brk, ↓klp_ret, ↓vl_cons, ↓vl_nil, ↓vg_cons, ↓vl0_cons, ↓upk_nil, ↓upk_cons, ↓bv_add, ↓bv_sub, ↓bv_mul, ↓bv_fdiv, ↓bv_mod, ↓bv_shl, ↓bv_shr, ↓bv_and, ↓bv_xor, ↓bv_pow, ↓av_add, ↓av_sub, ↓av_mul, ↓av_shl, ↓av_shr, ↓av_xor, ↓cv_eq, ↓cv_ne, ↓cv_lt, ↓cv_le, ↓cv_gt, ↓cv_ge, ↓cv_str, ↓cv_tup, ↓cv_in, ↓cv_instr, ↓tr_bool, ↓tr_int, ↓uv_neg, ↓uv_not, ↓br_dec, ↓br_tt, ↓br_ff, ↓br_not, ↓sub2_0, ↓sub2_1, ↓sub4_0, ok_name, ok_call, isG_eq, isL_eq, gk_cons, lc_cons, kg, kl, ↓reduceIte, List.all_cons, List.all_nil, List.isEmpty_cons, nstar, nset, nslice, ncall, ncomp, Bool.and_true, Bool.true_and, Bool.not_false, Bool.not_true, and_true, true_and, ne_eq, not_true, not_false_eq_true, List.length_cons, List.length_nil, ite_not, beq_self_eq_true, decide_false, decide_true, Bool.false_eq_true, ↓String.reduceEq, ↓String.reduceNe, Int.reduceLT, Int.reduceLE, Int.reduceGT, Int.reduceGE, Int.reduceEq, Int.reduceNe, Int.reduceNeg, Int.reduceAdd, Int.reduceSub, Int.reduceMul, Int.reduceToNat, Nat.reduceLT, Nat.reduceLeDiff, Nat.reduceAdd, Nat.reduceMul, Nat.reduceEqDiff]
  refine ⟨known_le w, L1.mono fun v hv => ?_⟩
  subst hv
  simp only [↓s_nil, ↓s_cons, ↓s_pass, ↓s_brk, ↓s_ret, ↓s_asg, ↓s_tup, ↓s_aug, ↓s_if, ↓s_assert, ↓asg_nil, ↓asg_cons, ↓e_int, ↓e_str, ↓e_bool, ↓e_name, ↓e_bin, ↓e_un, ↓e_bool2, ↓e_if, ↓e_cmp, ↓e_call, ↓e_bits, ↓e_sub, ↓e_tup, ↓t_not, ↓t_bool, ↓t_if, ↓t_cmp, ↓t_name, ↓t_call, ↓t_bin, ↓t_const, ↓t_sub, ↓es_nil, ↓es_cons, ↓b_one, ↓b_and, ↓b_or, ↓a_nil_and, ↓a_nil_or, ↓a_and, ↓a_or, ↓c_one, ↓c_more, ↓d_one, ↓d_more, ↓tupk_tup, ↓intk_int, ↓ksq_next, ↓ksq_ret, ↓ksq_brk, ↓ksq_cont, ↓kdf_ret, ↓kdf_next, ↓klp_next, ↓klp_cont, ↓klp_brk, ↓klp_ret, ↓vl_cons, ↓vl_nil, ↓vg_cons, ↓vl0_cons, ↓upk_nil, ↓upk_cons, ↓bv_add, ↓bv_sub, ↓bv_mul, ↓bv_fdiv, ↓bv_mod, ↓bv_shl, ↓bv_shr, ↓bv_and, ↓bv_xor, ↓bv_pow, ↓av_add, ↓av_sub, ↓av_mul, ↓av_shl, ↓av_shr, ↓av_xor, ↓cv_eq, ↓cv_ne, ↓cv_lt, ↓cv_le, ↓cv_gt, ↓cv_ge, ↓cv_str, ↓cv_tup, ↓cv_in, ↓cv_instr, ↓tr_bool, ↓tr_int, ↓uv_neg, ↓uv_not, ↓br_dec, ↓br_tt, ↓br_ff, ↓br_not, ↓sub2_0, ↓sub2_1, ↓sub4_0, ok_name, ok_call, isG_eq, isL_eq, gk_cons, lc_cons, kg, kl, ↓reduceIte, List.all_cons, List.all_nil, List.isEmpty_cons, nstar, nset, nslice, ncall, ncomp, Bool.and_true, Bool.true_and, Bool.not_false, Bool.not_true, and_true, true_and, ne_eq, not_true, not_false_eq_true, List.length_cons, List.length_nil, ite_not, beq_self_eq_true, decide_false, decide_true, Bool.false_eq_true, ↓String.reduceEq, ↓String.reduceNe, Int.reduceLT, Int.reduceLE, Int.reduceGT, Int.reduceGE, Int.reduceEq, Int.reduceNe, Int.reduceNeg, Int.reduceAdd, Int.reduceSub, Int.reduceMul, Int.reduceToNat, Nat.reduceLT, Nat.reduceLeDiff, Nat.reduceAdd, Nat.reduceMul, Nat.reduceEqDiff, q1, if_true]
  refine ⟨known_le w, L2.mono fun v hv => ?_⟩
  subst hv
  simp only [↓s_nil, ↓s_cons, ↓s_pass, ↓s_brk, ↓s_ret, ↓s_asg, ↓s_tup, ↓s_aug, ↓s_if, ↓s_assert, ↓asg_nil, ↓asg_cons, ↓e_int, ↓e_str, ↓e_bool, ↓e_name, ↓e_bin, ↓e_un, ↓e_bool2, ↓e_if, ↓e_cmp, ↓e_call, ↓e_bits, ↓e_sub, ↓e_tup, ↓t_not, ↓t_bool, ↓t_if, ↓t_cmp, ↓t_name, ↓t_call, ↓t_bin, ↓t_const, ↓t_sub, ↓es_nil, ↓es_cons, ↓b_one, ↓b_and, ↓b_or, ↓a_nil_and, ↓a_nil_or, ↓a_and, ↓a_or, ↓c_one, ↓c_more, ↓d_one, ↓d_more, ↓tupk_tup, ↓intk_int, ↓ksq_next, ↓ksq_ret, ↓ksq_brk, ↓ksq_cont, ↓kdf_ret, ↓kdf_next, ↓klp_next, ↓klp_cont, ↓klp_brk, ↓klp_ret, ↓vl_cons, ↓vl_nil, ↓vg_cons, ↓vl0_cons, ↓upk_nil, ↓upk_cons, ↓bv_add, ↓bv_sub, ↓bv_mul, ↓bv_fdiv, ↓bv_mod, ↓bv_shl, ↓bv_shr, ↓bv_and, ↓bv_xor, ↓bv_pow, ↓av_add, ↓av_sub, ↓av_mul, ↓av_shl, ↓av_shr, ↓av_xor, ↓cv_eq, ↓cv_ne, ↓cv_lt, ↓cv_le, ↓cv_gt, ↓cv_ge, ↓cv_str, ↓cv_tup, ↓cv_in, ↓cv_instr, ↓tr_bool, ↓tr_int, ↓uv_neg, ↓uv_not, ↓br_dec, ↓br_tt, ↓br_ff, ↓br_not, ↓sub2_0, ↓sub2_1, ↓sub4_0, ok_name, ok_call, isG_eq, isL_eq, gk_cons, lc_cons, kg, kl, ↓reduceIte, List.all_cons, List.all_nil, List.isEmpty_cons, nstar, nset, nslice, ncall, ncomp, Bool.and_true, Bool.true_and, Bool.not_false, Bool.not_true, and_true, true_and, ne_eq, not_true, not_false_eq_true, List.length_cons, List.length_nil, ite_not, beq_self_eq_true, decide_false, decide_true, Bool.false_eq_true, ↓String.reduceEq, ↓String.reduceNe, Int.reduceLT, Int.reduceLE, Int.reduceGT, Int.reduceGE, Int.reduceEq, Int.reduceNe, Int.reduceNeg, Int.reduceAdd, Int.reduceSub, Int.reduceMul, Int.reduceToNat, Nat.reduceLT, Nat.reduceLeDiff, Nat.reduceAdd, Nat.reduceMul, Nat.reduceEqDiff, q2]
end Mine

end
section
open PySem PySem.W PyProof.Rows PySem.Calls
set_option maxRecDepth 100000
namespace Mine
section
variable {prog : Program} {w : World} {A : Around} {E : Value → Shared → Prop} {s : Shared} {env : Env}
/-- a slice of what is itself passing -/
theorem sub_slice_step {value st : PySem.Expr} {lower upper : Option PySem.Expr} {p pos : PySem.Pos} {T id : String} {Q : Value → Shared → Prop}
    (hl : typeLookup (.type T) "__getitem__" = pure (some (.builtin id)))
    (h : wpAny (model prog w) A (eval value env) (fun o s₁ => wpAny (model prog w) A (eval (.Slice lower upper (some st) p) env) (fun i s₂ => s₂.TypeIs o T ∧ wpAny (model prog w) A (getItem o i) Q E s₂) E s₁) E s) :
    wpAny (model prog w) A (eval (.Subscript value (.Slice lower upper (some st) p) pos) env) Q E s := by
  rw [eval_Subscript]
  refine wpAny_bind (wpAny_mono h (fun o s₁ h₁ => wpAny_bind (wpAny_holding (wpAny_mono h₁ (fun i s₂ h₂ => wpAny_bind (wpAny_standAt ?_)) fun _ _ x => x))) fun _ _ x => x)
  have fin : wpAny (model prog w) A (operate [o, i] (getItem o i)) (fun r s₃ => wpAny (model prog w) A (letTemporaryGo value o r >>= fun _ => pure r) Q E s₃) E s₂ :=
    wpAny_operating (wpAny_mono h₂.2 (fun r s₃ h₃ => wpAny_bind (wpAny_letTemporaryGo (wpAny_pure h₃))) fun _ _ x => x)
  first
    | (refine wpAny_bind ?_
       rw [getitemInPython_of_ne h₂.1.not_modules]
       refine wpAny_bind (wpAny_specialOf h₂.1 hl ?_)
       first
         | exact wpAny_pure (wpAny_bind fin)
         | exact wpAny_bind (wpAny_pure (wpAny_bind fin))
         | exact wpAny_bind fin)
    | (refine wpAny_bind (wpAny_specialOf h₂.1 hl ?_)
       first
         | exact wpAny_bind (wpAny_pure (wpAny_bind fin))
         | exact wpAny_bind fin)
theorem sub_slice {value : PySem.Expr} {lower upper : Option PySem.Expr} {p pos : PySem.Pos} {T id : String} {Q : Value → Shared → Prop}
    (hl : typeLookup (.type T) "__getitem__" = pure (some (.builtin id)))
    (h : wpAny (model prog w) A (eval value env) (fun o s₁ => wpAny (model prog w) A (eval (.Slice lower upper none p) env) (fun i s₂ => s₂.TypeIs o T ∧ wpAny (model prog w) A (getItem o i) Q E s₂) E s₁) E s) :
    wpAny (model prog w) A (eval (.Subscript value (.Slice lower upper none p) pos) env) Q E s := by
  rw [eval_Subscript]
  refine wpAny_bind (wpAny_mono h (fun o s₁ h₁ => wpAny_bind (wpAny_holding (wpAny_mono h₁ (fun i s₂ h₂ => wpAny_bind (wpAny_standAt ?_)) fun _ _ x => x))) fun _ _ x => x)
  have fin : wpAny (model prog w) A (operate [i, o] (getItem o i)) (fun r s₃ => wpAny (model prog w) A (letTemporaryGo value o r >>= fun _ => pure r) Q E s₃) E s₂ :=
    wpAny_operating (wpAny_mono h₂.2 (fun r s₃ h₃ => wpAny_bind (wpAny_letTemporaryGo (wpAny_pure h₃))) fun _ _ x => x)
  first
    | (refine wpAny_bind ?_
       rw [getitemInPython_of_ne h₂.1.not_modules]
       refine wpAny_bind (wpAny_specialOf h₂.1 hl ?_)
       first
         | exact wpAny_pure (wpAny_bind fin)
         | exact wpAny_bind (wpAny_pure (wpAny_bind fin))
         | exact wpAny_bind fin)
    | (refine wpAny_bind (wpAny_specialOf h₂.1 hl ?_)
       first
         | exact wpAny_bind (wpAny_pure (wpAny_bind fin))
         | exact wpAny_bind fin)
end
theorem fm_congr {α β : Type} {f g : α → Option β} : ∀ {l : List α}, (∀ a ∈ l, f a = g a) → l.filterMap f = l.filterMap g
  | [], _ => rfl
  | a :: r, h => by
    rw [List.filterMap_cons, List.filterMap_cons, h a List.mem_cons_self, fm_congr fun x hx => h x (List.mem_cons_of_mem _ hx)]
theorem range_get {α : Type} : ∀ l : List α, (List.range l.length).filterMap (fun k => l[k]?) = l
  | [] => rfl
  | a :: r => by
    rw [List.length_cons, List.range_succ_eq_map, List.filterMap_cons]
    simp only [List.getElem?_cons_zero]
    rw [List.filterMap_map]
    congr 1
    exact range_get r
theorem slice_rev (items : Array Value) : slicePick items none none (some (-1)) = items.toList.reverse.toArray := by
  unfold slicePick sliceBounds
  have hst : ((some (-1) : Option Int).getD 1) = -1 := rfl
  simp only [hst]
  rw [if_neg (by decide), if_neg (by decide)]
  unfold sliceRange
  rw [if_neg (by decide)]
  congr 1
  have hc : ((if (items.size : Int) - 1 > -1 then ((items.size : Int) - 1 - -1 - -1 - 1) / (- -1) else 0)).toNat = items.toList.reverse.length := by
    rw [show (- -1 : Int) = 1 by decide, Int.ediv_one, List.length_reverse, Array.length_toList]
    split <;> omega
  dsimp only
  rw [hc, List.filterMap_map]
  conv => rhs; rw [← range_get items.toList.reverse]
  apply fm_congr
  intro k hk
  have hk := List.mem_range.mp hk
  rw [List.length_reverse, Array.length_toList] at hk
  show items[((items.size : Int) - 1 + -1 * (k : Int)).toNat]? = _
  rw [show ((items.size : Int) - 1 + -1 * (k : Int)).toNat = items.size - 1 - k by omega]
  rw [List.getElem?_reverse (by simpa using hk), Array.length_toList, Array.getElem?_toList]
theorem nts_take (l : List Nat) (t : Nat) : (nts l).take t = nts (l.take t) := by simp [nts]
theorem nts_rev (l : List Nat) : (nts l).reverse = nts l.reverse := by simp [nts]
theorem RVs.take {h : Heap} : ∀ {ds : List D} {vs : List Value} (t : Nat), RVs h vs ds → RVs h (vs.take t) (ds.take t)
  | [], vs, t, r => by obtain rfl := r.inv_nil; simp; exact .nil
  | d :: ds, vs, 0, r => by simp; exact .nil
  | d :: ds, vs, t + 1, r => by
    obtain ⟨v, vs', rfl, a, r'⟩ := r.inv_cons
    exact .cons a (RVs.take t r')
theorem RVs.rev {h : Heap} : ∀ {ds : List D} {vs : List Value}, RVs h vs ds → RVs h vs.reverse ds.reverse
  | [], vs, r => by obtain rfl := r.inv_nil; exact .nil
  | d :: ds, vs, r => by
    obtain ⟨v, vs', rfl, a, r'⟩ := r.inv_cons
    rw [List.reverse_cons, List.reverse_cons]
    exact (RVs.rev r').append (.cons a .nil)
/-- the slice that is walked while folding -/
theorem iter_rev (w : World) {A : Around} {s : Shared} {H : Heap} {L fa : Addr} {nm : Str} {cd : Value} {sc : Scope} {ρ : Ev} {t : Nat} {af : Addr} {is : List Nat} {i1 i2 i3 i4 i5 i6 i7 i8 : PySem.Pos} {j : Nat}
    (I : Inn (KK w) H L sc ρ s) (R : Rm 1 A) (h1 : lk (Str.ofString "figures") ρ = some (lat af (nts is))) (h2 : lk (Str.ofString "turned") ρ = some (.int t)) (hl : is.length ≤ 7) :
    ∀ Q' : Value → Shared → Prop, (∀ s₁ l items, Ext s s₁ → s₁.heap.IsList l items → RVs s₁.heap items.toList (nts (is.take t).reverse) → Q' (.ref l) s₁) →
      wpAny (model PP w) A (eval (.Subscript (.Subscript (.Name (Str.ofString "figures") i1) (.Slice none (some (.Name (Str.ofString "turned") i2)) none i3) i4) (.Slice none none (some (.UnaryOp .USub (.Constant (.int 1) j i5) i6)) i7) i8) (envOf nm sc L fa cd)) Q' (fun _ _ => False) s := by
  intro Q' hq
  refine sub_slice_step (T := "list") list_getitem_lookup ?_
  refine wpAny_Subscript_list_slice ?_
  refine load_local I h1 (by decide) fun v rv => ?_
  obtain ⟨rfl, vs, pl, rvs⟩ := lat_inv rv
  have hz : vs.size = is.length := by have := rvs.length; simpa [nts] using this
  rw [evalPart_none]
  refine wpAny_pure ?_
  rw [evalPart_some]
  refine load_local I h2 (by decide) fun u ru => ?_
  obtain ⟨tk, rfl⟩ := ru.int_inv
  refine ⟨af, vs, none, some t, rfl, pl.isList, by rw [hz]; exact Nat.le_trans hl (by decide), .none, .int _ _, ?_⟩
  rw [slicePick_upto']
  have k1 : Kp s.heap (s.heap.push { cls := .type "slice", data := .fields #[.none, .int t tk, .none] }) := Kp.push _ _
  have k2 := Kp.push (s.heap.push { cls := .type "slice", data := .fields #[.none, .int t tk, .none] }) { cls := .type "list", data := .seq (vs.toList.take t).toArray }
  have e1 : Ext s { s with heap := (s.heap.push { cls := .type "slice", data := .fields #[.none, .int t tk, .none] }).push { cls := .type "list", data := .seq (vs.toList.take t).toArray } } := ⟨⟨_, _, rfl⟩, k1.trans k2⟩
  have hl1 : ((s.heap.push { cls := .type "slice", data := .fields #[.none, .int t tk, .none] }).push { cls := .type "list", data := .seq (vs.toList.take t).toArray }).IsList (s.heap.objs.size + 1) (vs.toList.take t).toArray := by
    have := Heap.get?_push_size (s.heap.push { cls := .type "slice", data := .fields #[.none, .int t tk, .none] }) (o := { cls := .type "list", data := .seq (vs.toList.take t).toArray }) rfl
    rw [Heap.size_push] at this
    exact ⟨_, this, rfl, _, rfl⟩
  generalize hs1 : ({ s with heap := (s.heap.push { cls := .type "slice", data := .fields #[.none, .int t tk, .none] }).push { cls := .type "list", data := .seq (vs.toList.take t).toArray } } : Shared) = s1 at *
  have hl1 : s1.heap.IsList (s.heap.objs.size + 1) (vs.toList.take t).toArray := by rw [← hs1]; exact hl1
  have I1 := I.ext e1
  refine wpAny_Slice ?_
  rw [evalPart_none]
  refine wpAny_pure (wpAny_pure ?_)
  rw [evalPart_some]
  refine wpe_sound (n := 1) (G := GT) (prog := PP) (gok w) _ ρ (fun d => d = .int (-1)) ?_ A s1 H L nm fa cd _ R I1 fun v s2 d hd rv2 ex2 => ?_
  · (conv => arg 6; unfold GT)
    simp only [↓s_nil, ↓s_cons, ↓s_pass, ↓s_brk, ↓s_ret, ↓s_asg, ↓s_tup, ↓s_aug, ↓s_if, ↓s_assert, ↓asg_nil, ↓asg_cons, ↓e_int, ↓e_str, ↓e_bool, ↓e_name, ↓e_bin, ↓e_un, ↓e_bool2, ↓e_if, ↓e_cmp, ↓e_call, ↓e_bits, ↓e_sub, ↓e_tup, ↓t_not, ↓t_bool, ↓t_if, ↓t_cmp, ↓t_name, ↓t_call, ↓t_bin, ↓t_const, ↓t_sub, ↓es_nil, ↓es_cons, ↓b_one, ↓b_and, ↓b_or, ↓a_nil_and, ↓a_nil_or, ↓a_and, ↓a_or, ↓c_one, ↓c_more, ↓d_one, ↓d_more, ↓tupk_tup, ↓intk_int, ↓ksq_next, ↓ksq_ret, ↓ksq_brk, ↓ksq_cont, ↓kdf_ret, ↓kdf_next, ↓klp_next, ↓klp_cont, ↓klp_brk, ↓klp_ret, ↓vl_cons, ↓vl_nil, ↓vg_cons, ↓vl0_cons, ↓upk_nil, ↓upk_cons, ↓bv_add, ↓bv_sub, ↓bv_mul, ↓bv_fdiv, ↓bv_mod, ↓bv_shl, ↓bv_shr, ↓bv_and, ↓bv_xor, ↓bv_pow, ↓av_add, ↓av_sub, ↓av_mul, ↓av_shl, ↓av_shr, ↓av_xor, ↓cv_eq, ↓cv_ne, ↓cv_lt, ↓cv_le, ↓cv_gt, ↓cv_ge, ↓cv_str, ↓cv_tup, ↓cv_in, ↓cv_instr, ↓tr_bool, ↓tr_int, ↓uv_neg, ↓uv_not, ↓br_dec, ↓br_tt, ↓br_ff, ↓br_not, ↓sub2_0, ↓sub2_1, ↓sub4_0, ok_name, ok_call, isG_eq, isL_eq, gk_cons, lc_cons, kg, kl, ↓reduceIte, List.all_cons, List.all_nil, List.isEmpty_cons, nstar, nset, nslice, ncall, ncomp, Bool.and_true, Bool.true_and, Bool.not_false, Bool.not_true, and_true, true_and, ne_eq, not_true, not_false_eq_true, List.length_cons, List.length_nil, ite_not, beq_self_eq_true, decide_false, decide_true, Bool.false_eq_true, ↓String.reduceEq, ↓String.reduceNe, Int.reduceLT, Int.reduceLE, Int.reduceGT, Int.reduceGE, Int.reduceEq, Int.reduceNe, Int.reduceNeg, Int.reduceAdd, Int.reduceSub, Int.reduceMul, Int.reduceToNat, Nat.reduceLT, Nat.reduceLeDiff, Nat.reduceAdd, Nat.reduceMul, Nat.reduceEqDiff]
  · subst hd
    obtain ⟨t2, rfl⟩ := rv2.int_inv
    have k3 : Kp s2.heap (s2.heap.push { cls := .type "slice", data := .fields #[.none, .none, .int (-1) t2] }) := Kp.push _ _
    have hl2 := isList_kp (isList_kp hl1 ex2.2) k3
    refine ⟨hl2.typeIs, wpAny_getItem_list_slice hl2 (Heap.IsSliceOf.new ..) .none .none (.int _ _) (by decide) ?_ ?_⟩
    · rw [slice_rev]
      have k4 := Kp.push (s2.heap.push { cls := .type "slice", data := .fields #[.none, .none, .int (-1) t2] }) { cls := .type "list", data := .seq (vs.toList.take t).toArray.toList.reverse.toArray }
      refine hq _ _ ((vs.toList.take t).toArray.toList.reverse.toArray) (e1.trans (ex2.trans ⟨⟨_, _, rfl⟩, k3.trans k4⟩)) ?_ ?_
      · exact ⟨_, Heap.get?_push_size _ rfl, rfl, _, rfl⟩
      · have := (RVs.take t rvs).rev
        rw [nts_take, nts_rev] at this
        exact RVs.kp k4 (RVs.kp k3 (RVs.kp ex2.2 (RVs.kp e1.2 this)))
    · have : (vs.toList.take t).toArray.size ≤ 7 := by simp; omega
      exact Nat.le_trans this (by decide)
end Mine

end
section
open PySem PySem.W PyProof.Rows PySem.Calls
set_option maxRecDepth 100000
namespace Mine
/-- m, d, turned, figures = (0, 1, 0, []) -/
theorem made_stmt (w : World) {A : Around} {s : Shared} {H : Heap} {L : Addr} {fa : Addr} {nm : Str} {cd : Value} {Q : Flow → Shared → Prop} {n p whole : Nat} {sure : Int} {i1 i2 i3 i4 i5 i6 i7 i8 i9 i10 i11 : PySem.Pos} {j1 j2 j3 j4 j5 : Nat}
    (I : Inn (KK w) H L (fscope (KK w) 312) ([(Str.ofString "n", .int n), (Str.ofString "p", .int p), (Str.ofString "sure", .int sure), (Str.ofString "whole", .int whole)] : Ev) s) (R : Rm 13 A)
    (hq : ∀ s' af, Inn (KK w) H L (fscope (KK w) 312) ([(Str.ofString "n", .int n), (Str.ofString "p", .int p), (Str.ofString "sure", .int sure), (Str.ofString "whole", .int whole), (Str.ofString "m", .int 0), (Str.ofString "d", .int 1), (Str.ofString "turned", .int 0), (Str.ofString "figures", lat af [])] : Ev) s' →
      s.heap.objs.size ≤ af → Like L s s' → Q .next s') :
    wpAny (model PP w) A (exec (.Assign [.Tuple [.Name (Str.ofString "m") i1, .Name (Str.ofString "d") i2, .Name (Str.ofString "turned") i3, .Name (Str.ofString "figures") i4] j1 i5] (.Tuple [.Constant (.int 0) j2 i6, .Constant (.int 1) j3 i7, .Constant (.int 0) j4 i8, .List [] i9] j5 i10) i11) (envOf nm (fscope (KK w) 312) L fa cd)) Q (fun _ _ => False) s := by
  rw [exec_Assign_Tuple (ncomp_swaps rfl)]
  refine wpAny_bind (wpAny_standAt (wpAny_bind ?_))
  refine PyProof.Rows.Tuple_ (PyProof.Rows.spliced_more (wpAny_Constant_int (PyProof.Rows.spliced_more (wpAny_Constant_int (PyProof.Rows.spliced_more (wpAny_Constant_int (PyProof.Rows.spliced_more (PyProof.Rows.List_ (PyProof.Rows.spliced_none (wpAny_newList (PyProof.Rows.spliced_none ?_)))) rfl)) rfl)) rfl)) rfl)
  refine wpAny_newTuple ?_ (by show 4 ≤ sizeLine; decide +kernel)
  have k1 := Kp.push s.heap { cls := .type "list", data := .seq ([] : List Value).toArray }
  have pl0 : PlainL (s.heap.push { cls := .type "list", data := .seq ([] : List Value).toArray }) s.heap.objs.size ([] : List Value).toArray := ⟨_, _, Heap.get?_push_size _ rfl, rfl, rfl, rfl⟩
  generalize hh1 : s.heap.push { cls := .type "list", data := .seq ([] : List Value).toArray } = h1 at *
  dsimp only
  have e0 : ∀ a b, swappedStores [.Tuple [.Name (Str.ofString "m") i1, .Name (Str.ofString "d") i2, .Name (Str.ofString "turned") i3, .Name (Str.ofString "figures") i4] a b] (.Tuple [.Constant (.int 0) j2 i6, .Constant (.int 1) j3 i7, .Constant (.int 0) j4 i8, .List [] i9] j5 i10) (envOf nm (fscope (KK w) 312) L fa cd) = pure none := by
    intro a b
    unfold swappedStores
    dsimp only
    exact if_pos rfl
  rw [e0]
  refine wpAny_bind (wpAny_pure ?_)
  have ex : ∀ (o : Obj) (t : Nat), Ext s { s with heap := h1.push o, toks := t } := fun o t => ⟨⟨_, _, rfl⟩, k1.trans (Kp.push _ _)⟩
  refine unpack_sound (ds := [.int 0, .int 1, .int 0, lat s.heap.objs.size []]) (ρ := ([(Str.ofString "n", .int n), (Str.ofString "p", .int p), (Str.ofString "sure", .int sure), (Str.ofString "whole", .int whole)] : Ev)) (c := fun ρ' => ρ' = ([(Str.ofString "n", .int n), (Str.ofString "p", .int p), (Str.ofString "sure", .int sure), (Str.ofString "whole", .int whole), (Str.ofString "m", .int 0), (Str.ofString "d", .int 1), (Str.ofString "turned", .int 0), (Str.ofString "figures", lat s.heap.objs.size [])] : Ev)) R (I.ext (ex _ _)) ?_ ?_ fun s' ρ' hρ I' lkk => ?_
  · exact .tup (IsTup.new _ _) (.cons (.int _ _) (.cons (.int _ _) (.cons (.int _ _) (.cons (.lat (pl0.keeps (Kp.push _ _)) .nil) .nil))))
  · (conv => arg 1; whnf)
    simp only [↓s_nil, ↓s_cons, ↓s_pass, ↓s_brk, ↓s_ret, ↓s_asg, ↓s_tup, ↓s_aug, ↓s_if, ↓s_assert, ↓asg_nil, ↓asg_cons, ↓e_int, ↓e_str, ↓e_bool, ↓e_name, ↓e_bin, ↓e_un, ↓e_bool2, ↓e_if, ↓e_cmp, ↓e_call, ↓e_bits, ↓e_sub, ↓e_tup, ↓t_not, ↓t_bool, ↓t_if, ↓t_cmp, ↓t_name, ↓t_call, ↓t_bin, ↓t_const, ↓t_sub, ↓es_nil, ↓es_cons, ↓b_one, ↓b_and, ↓b_or, ↓a_nil_and, ↓a_nil_or, ↓a_and, ↓a_or, ↓c_one, ↓c_more, ↓d_one, ↓d_more, ↓tupk_tup, ↓intk_int, ↓ksq_next, ↓ksq_ret, ↓ksq_brk, ↓ksq_cont, ↓kdf_ret, ↓kdf_next, ↓klp_next, ↓klp_cont, ↓klp_brk, ↓klp_ret, ↓vl_cons, ↓vl_nil, ↓vg_cons, ↓vl0_cons, ↓upk_nil, ↓upk_cons, ↓bv_add, ↓bv_sub, ↓bv_mul, ↓bv_fdiv, ↓bv_mod, ↓bv_shl, ↓bv_shr, ↓bv_and, ↓bv_xor, ↓bv_pow, ↓av_add, ↓av_sub, ↓av_mul, ↓av_shl, ↓av_shr, ↓av_xor, ↓cv_eq, ↓cv_ne, ↓cv_lt, ↓cv_le, ↓cv_gt, ↓cv_ge, ↓cv_str, ↓cv_tup, ↓cv_in, ↓cv_instr, ↓tr_bool, ↓tr_int, ↓uv_neg, ↓uv_not, ↓br_dec, ↓br_tt, ↓br_ff, ↓br_not, ↓sub2_0, ↓sub2_1, ↓sub4_0, ok_name, ok_call, isG_eq, isL_eq, gk_cons, lc_cons, kg, kl, ↓reduceIte, List.all_cons, List.all_nil, List.isEmpty_cons, nstar, nset, nslice, ncall, ncomp, Bool.and_true, Bool.true_and, Bool.not_false, Bool.not_true, and_true, true_and, ne_eq, not_true, not_false_eq_true, List.length_cons, List.length_nil, ite_not, beq_self_eq_true, decide_false, decide_true, Bool.false_eq_true, ↓String.reduceEq, ↓String.reduceNe, Int.reduceLT, Int.reduceLE, Int.reduceGT, Int.reduceGE, Int.reduceEq, Int.reduceNe, Int.reduceNeg, Int.reduceAdd, Int.reduceSub, Int.reduceMul, Int.reduceToNat, Nat.reduceLT, Nat.reduceLeDiff, Nat.reduceAdd, Nat.reduceMul, Nat.reduceEqDiff]
  · subst hρ
    exact hq s' _ I' (Nat.le_refl _) ((ex _ _).like.trans lkk)
theorem Head.ext (w : World) {n p : Nat} {sure : Int} {whole : Nat} {af : Addr} {df : D} {H : Heap} {L : Addr} {s s' s'' : Shared} {k : Nat} (h : Head w n p sure whole af df H L s k s') (e : Ext s' s'') : Head w n p sure whole af df H L s k s'' := by
  obtain ⟨m, d, num, en, den, ed, lo, hi, rf, dx, I, R, px, ch, hl, ho⟩ := h
  exact ⟨m, d, num, en, den, ed, lo, hi, rf, dx, I.ext e, R, px, ch, hl, ⟨ho.up.trans (Heap.UpToSlots.of_keeps e.2), like_sh ho.like e.1⟩⟩
theorem read_call (w : World) {A : Around} {s : Shared} {vs : List Value} {l : List Env} {Q : Value → Shared → Prop} {n p : Nat} {sure : Int}
    (hst : A.frames = some l) (f : FF l s.heap) (R : Rm 14 A) (g : Gd (KK w) (Hid l s.heap)) (r : RVs s.heap vs [.int n, .int p, .int sure])
    (n1 : 1 ≤ n) (n2 : n < 2 ^ 100) (p4 : 4 ≤ p) (p119 : p ≤ 119) (s7 : sure ≤ 7) (sp : 0 < sure → n ≤ 1000 ∧ 12 * sure + 9 ≤ p)
    (hq : ∀ s', ExU l s s' → Q (.bool true) s') : wpAny (model PP w) A (call (.ref 312) vs) Q (fun _ _ => False) s := by
  have kp : Kp (Hid l s.heap) s.heap := fun b o e => (hid_of e).1
  have bn : bl n ≤ 100 := bl_le.mpr n2
  refine call_gen (d_ulaw_read w) rfl R (g.kp kp) r fun s₁ L nm cd I x hL R' => ?_
  refine wpAny_mono (?_ : wpAny _ _ _ _ (fun _ _ => False) s₁) (fun _ _ x => x) (fun _ _ x => x.elim)
  have I : Inn (KK w) (Hid l s.heap) L _ _ s₁ := I.ground g kp (hideAll_size _ _)
  have off : Off l (Hid l s.heap) := off_hid
  have ho1 : Hold s s₁ := ⟨Heap.UpToSlots.of_keeps x.2, x.1⟩
  rw [← List.take_append_drop 1 (fbody _ _)]
  refine wps_then (gok w) _ _ _ (r0 w bn) _ _ _ _ _ _ _ _ _ _ R' I fun flw s₂ o hor hf₂ lk₂ => ?_
  obtain ⟨whole, w1, w2, rfl⟩ := hor
  cases flw <;> first | exact (hf₂ : False).elim | skip
  have I₂ : Inn _ _ _ _ _ s₂ := hf₂
  have ho2 := ho1.step lk₂ hL
  have P : Par n whole p sure := ⟨n1, n2, p4, p119, w1, w2, s7, sp⟩
  show wpAny _ _ (execs (List.drop 1 (fbody (KK w) 312)) _) _ _ _
  (conv => arg 3; arg 1; arg 2; whnf)
  simp only [List.drop_succ_cons, List.drop_zero]
  refine wpAny_execs_cons (made_stmt w I₂ R' fun s₃ af I₃ haf lk₃ => ?_)
  have ho3 := ho2.step lk₃ hL
  have hAF : s.heap.get? af = none := by
    refine Heap.get?_none_of_le (Nat.le_trans ?_ haf)
    obtain ⟨m, F, _⟩ := I₂.fr
    have e : (Hid l s.heap).objs.size = s.heap.objs.size := hideAll_size _ _
    exact Nat.le_trans (e ▸ F.above) (Nat.le_of_lt F.ns.lt)
  have fresh : (Hid l s.heap).get? af = none := by
    cases q : (Hid l s.heap).get? af with
    | none => rfl
    | some o => have := kp _ _ q; rw [hAF] at this; cases this
  show wpAny _ _ (execs (List.take 3 (List.drop 2 (fbody (KK w) 312)) ++ List.drop 5 (fbody (KK w) 312)) _) _ _ _
  refine wps_then (gok w) _ _ _ (r2 w n1 bn p4 p119) _ _ _ _ _ _ _ _ _ _ R' I₃ fun flw s₄ o hor hf₄ lk₄ => ?_
  obtain ⟨df, fl', fh, px, S1, S2, rfl⟩ := hor
  cases flw <;> first | exact (hf₄ : False).elim | skip
  have I₄ : Inn _ _ _ _ _ s₄ := hf₄
  have ho4 := ho3.step lk₄ hL
  have RS0 := RS.start P S1 S2 (by obtain ⟨_, _, _, q, _⟩ := px; exact q.pos) (by obtain ⟨_, _, _, _, q⟩ := px; exact q.pos)
  have F : First n p fl' fh df := ⟨px, RS0.l1, RS0.l2, RS0.h1, RS0.h2, S1.le, S2.le⟩
  have hnl : nl df = true := by
    obtain ⟨xa, xb, rfl, ⟨ma, ea, ⟨rfl, _, _⟩, _⟩, ⟨mb, eb, ⟨rfl, _, _⟩, _⟩⟩ := px
    rfl
  have H0 : Head w n p sure whole af df (Hid l s.heap) L s 0 s₄ := ⟨0, 1, 1, 0, 0, 1, fl', fh, [], df, I₄, RS0, px, .nil, rfl, ho4⟩
  show wpAny _ _ (execs (List.drop 5 (fbody (KK w) 312)) _) _ _ _
  (conv => arg 3; arg 1; arg 2; whnf)
  simp only [List.drop_succ_cons, List.drop_zero]
  -- what comes after the loop
  have after : ∀ s₅, Done w n p sure whole af df (Hid l s.heap) L s s₅ → wpAny (model PP w) (A.deeper (envOf nm (fscope (KK w) 312) L 312 cd)) (execs (List.drop 6 (fbody (KK w) 312)) (envOf nm (fscope (KK w) 312) L 312 cd)) (fun fl s' => Q (match fl with | .ret v => v | _ => .none) s') (fun _ _ => False) s₅ := by
    rintro s₅ ⟨is, t, m, d, lo, hi, dx, I₅, ht, hl7, ch, C, l1, l2, h1, h2, px5, hneed, ho5⟩
    show wpAny _ _ (execs (List.take 1 (List.drop 6 (fbody (KK w) 312)) ++ List.drop 7 (fbody (KK w) 312)) _) _ _ _
    refine wps_then (gok w) _ _ _ (rIf w w1 bn hl7 hneed) _ _ _ _ _ _ _ _ _ _ R' I₅ fun flw s₆ o hor hf₆ lk₆ => ?_
    subst hor
    cases flw <;> first | exact (hf₆ : False).elim | skip
    have I₆ : Inn _ _ _ _ _ s₆ := hf₆
    have ho6 := ho5.step lk₆ hL
    show wpAny _ _ (execs (List.drop 7 (fbody (KK w) 312)) _) _ _ _
    (conv => arg 3; arg 1; arg 2; whnf)
    simp only [List.drop_succ_cons, List.drop_zero]
    refine wpAny_execs_cons (for_rule (n := 13) (gok w) (ds := nts (is.take t).reverse) (P := FoldP n p sure whole t af (nts is) df (is.take t).reverse) rfl R' I₆ (fun _ => rfl) (iter_rev w I₆ (R'.mono (by omega)) rfl rfl hl7)
      ⟨dx, lo, hi, m, d, .inl rfl, ch, C, l1, l2, h1, h2, px5⟩ (fun i e ρ' hd hP => rFold w p4 p119 n1 i e ρ' hd hP) fun s₇ ρ₇ hP I₇ lk₇ up₇ => ?_)
    obtain ⟨dx7, lo7, hi7, m7, d7, hρ, ch7, C7, b1, b2, b3, b4, px7⟩ := hP
    have hnil : (is.take t).reverse.drop (nts (is.take t).reverse).length = [] := by simp [nts]
    rw [hnil] at ch7
    cases ch7
    obtain ⟨more, rfl⟩ : ∃ more, ρ₇ = AEnv n p sure whole t af (nts is) df dx7 ++ more := by
      rcases hρ with rfl | ⟨e, rfl⟩
      · exact ⟨[], (List.append_nil _).symm⟩
      · exact ⟨_, rfl⟩
    show wpAny _ _ (execs (List.drop 8 (fbody (KK w) 312)) _) _ _ _
    refine wpAny_mono (wps_sound (n := 13) (gok w) _ _ _ (rRet w p4 p119 bn F px7 C7 b1 b2 b3 b4) _ _ _ _ _ _ _ (fun fl s' => Q (match fl with | .ret v => v | _ => .none) s') R' I₇ fun f8 s₈ o8 ho8 hf8 lk8 => ?_) (fun _ _ x => x) (fun _ _ x => x.elim)
    subst ho8
    cases f8 <;> first | exact (hf8 : False).elim | skip
    obtain ⟨⟨m8, F8⟩, rv8⟩ := hf8
    obtain rfl := rv8.bool_inv
    have ho7 : Hold s s₇ := ⟨up₇ _ ho6.up hL, like_sh ho6.like lk₇⟩
    have ho8 := ho7.step lk8 hL
    exact hq _ ⟨ho8.like, F8.keep, ho8.up⟩
  refine wpAny_execs_cons (wpAny_While (codeAny_whileLoop (fun j s' => ∃ k, k ≤ 7 ∧ j = 7 - k ∧ Head w n p sure whole af df (Hid l s.heap) L s k s') ?_ 7 ⟨0, by omega, rfl, H0⟩))
  rintro j s' ⟨k, hk, rfl, hh⟩
  obtain ⟨m, d, num, en, den, ed, lo, hi, rf, dx, I', _, _, _, hlen, _⟩ := id hh
  refine wpAny_mono (wpt_sound' (n := 13) (gok w) _ _ (fun c => c = decide (k < 7)) ?_ _ s' _ L nm 312 cd (fun c s₁ => c = decide (k < 7) ∧ Ext s' s₁) R' I' fun c s₁ hc ex => ⟨hc, ex⟩) (fun c s₁ xc => ?_) fun _ _ x => x.elim
  · unfold HEnv
    (conv => arg 5; whnf); (conv => arg 6; unfold GT)
    simp only [↓s_nil, ↓s_cons, ↓s_pass, ↓s_brk, ↓s_ret, ↓s_asg, ↓s_tup, ↓s_aug, ↓s_if, ↓s_assert, ↓asg_nil, ↓asg_cons, ↓e_int, ↓e_str, ↓e_bool, ↓e_name, ↓e_bin, ↓e_un, ↓e_bool2, ↓e_if, ↓e_cmp, ↓e_call, ↓e_bits, ↓e_sub, ↓e_tup, ↓t_not, ↓t_bool, ↓t_if, ↓t_cmp, ↓t_name, ↓t_call, ↓t_bin, ↓t_const, ↓t_sub, ↓es_nil, ↓es_cons, ↓b_one, ↓b_and, ↓b_or, ↓a_nil_and, ↓a_nil_or, ↓a_and, ↓a_or, ↓c_one, ↓c_more, ↓d_one, ↓d_more, ↓tupk_tup, ↓intk_int, ↓ksq_next, ↓ksq_ret, ↓ksq_brk, ↓ksq_cont, ↓kdf_ret, ↓kdf_next, ↓klp_next, ↓klp_cont, ↓klp_brk, ↓klp_ret, ↓vl_cons, ↓vl_nil, ↓vg_cons, ↓vl0_cons, ↓upk_nil, ↓upk_cons, ↓bv_add, ↓bv_sub, ↓bv_mul, ↓bv_fdiv, ↓bv_mod, ↓bv_shl, ↓bv_shr, ↓bv_and, ↓bv_xor, ↓bv_pow, ↓av_add, ↓av_sub, ↓av_mul, ↓av_shl, ↓av_shr, ↓av_xor, ↓cv_eq, ↓cv_ne, ↓cv_lt, ↓cv_le, ↓cv_gt, ↓cv_ge, ↓cv_str, ↓cv_tup, ↓cv_in, ↓cv_instr, ↓tr_bool, ↓tr_int, ↓uv_neg, ↓uv_not, ↓br_dec, ↓br_tt, ↓br_ff, ↓br_not, ↓sub2_0, ↓sub2_1, ↓sub4_0, ok_name, ok_call, isG_eq, isL_eq, gk_cons, lc_cons, kg, kl, ↓reduceIte, List.all_cons, List.all_nil, List.isEmpty_cons, nstar, nset, nslice, ncall, ncomp, Bool.and_true, Bool.true_and, Bool.not_false, Bool.not_true, and_true, true_and, ne_eq, not_true, not_false_eq_true, List.length_cons, List.length_nil, ite_not, beq_self_eq_true, decide_false, decide_true, Bool.false_eq_true, ↓String.reduceEq, ↓String.reduceNe, Int.reduceLT, Int.reduceLE, Int.reduceGT, Int.reduceGE, Int.reduceEq, Int.reduceNe, Int.reduceNeg, Int.reduceAdd, Int.reduceSub, Int.reduceMul, Int.reduceToNat, Nat.reduceLT, Nat.reduceLeDiff, Nat.reduceAdd, Nat.reduceMul, Nat.reduceEqDiff]
    refine ⟨known_len w, (len_spec w (by simp [nts, hlen]; omega)).mono fun v hv => ?_⟩
    subst hv
    simp only [↓s_nil, ↓s_cons, ↓s_pass, ↓s_brk, ↓s_ret, ↓s_asg, ↓s_tup, ↓s_aug, ↓s_if, ↓s_assert, ↓asg_nil, ↓asg_cons, ↓e_int, ↓e_str, ↓e_bool, ↓e_name, ↓e_bin, ↓e_un, ↓e_bool2, ↓e_if, ↓e_cmp, ↓e_call, ↓e_bits, ↓e_sub, ↓e_tup, ↓t_not, ↓t_bool, ↓t_if, ↓t_cmp, ↓t_name, ↓t_call, ↓t_bin, ↓t_const, ↓t_sub, ↓es_nil, ↓es_cons, ↓b_one, ↓b_and, ↓b_or, ↓a_nil_and, ↓a_nil_or, ↓a_and, ↓a_or, ↓c_one, ↓c_more, ↓d_one, ↓d_more, ↓tupk_tup, ↓intk_int, ↓ksq_next, ↓ksq_ret, ↓ksq_brk, ↓ksq_cont, ↓kdf_ret, ↓kdf_next, ↓klp_next, ↓klp_cont, ↓klp_brk, ↓klp_ret, ↓vl_cons, ↓vl_nil, ↓vg_cons, ↓vl0_cons, ↓upk_nil, ↓upk_cons, ↓bv_add, ↓bv_sub, ↓bv_mul, ↓bv_fdiv, ↓bv_mod, ↓bv_shl, ↓bv_shr, ↓bv_and, ↓bv_xor, ↓bv_pow, ↓av_add, ↓av_sub, ↓av_mul, ↓av_shl, ↓av_shr, ↓av_xor, ↓cv_eq, ↓cv_ne, ↓cv_lt, ↓cv_le, ↓cv_gt, ↓cv_ge, ↓cv_str, ↓cv_tup, ↓cv_in, ↓cv_instr, ↓tr_bool, ↓tr_int, ↓uv_neg, ↓uv_not, ↓br_dec, ↓br_tt, ↓br_ff, ↓br_not, ↓sub2_0, ↓sub2_1, ↓sub4_0, ok_name, ok_call, isG_eq, isL_eq, gk_cons, lc_cons, kg, kl, ↓reduceIte, List.all_cons, List.all_nil, List.isEmpty_cons, nstar, nset, nslice, ncall, ncomp, Bool.and_true, Bool.true_and, Bool.not_false, Bool.not_true, and_true, true_and, ne_eq, not_true, not_false_eq_true, List.length_cons, List.length_nil, ite_not, beq_self_eq_true, decide_false, decide_true, Bool.false_eq_true, ↓String.reduceEq, ↓String.reduceNe, Int.reduceLT, Int.reduceLE, Int.reduceGT, Int.reduceGE, Int.reduceEq, Int.reduceNe, Int.reduceNeg, Int.reduceAdd, Int.reduceSub, Int.reduceMul, Int.reduceToNat, Nat.reduceLT, Nat.reduceLeDiff, Nat.reduceAdd, Nat.reduceMul, Nat.reduceEqDiff]
    have : (nts rf.reverse).length = k := by simp [nts, hlen]
    rw [this]
    by_cases q : k < 7
    · rw [decide_eq_true q, decide_eq_true (by omega)]
    · rw [decide_eq_false q, decide_eq_false (by omega)]
  · obtain ⟨rfl, ex⟩ := xc
    have hh1 := hh.ext w ex
    by_cases q : k < 7
    · rw [decide_eq_true q]
      show wpAny _ _ (execs (wbody (fbody (KK w) 312) 5) _) _ _ _
      refine wpAny_mono (body_turn w P F (by omega) fresh hAF hL hst f off hnl R' hh1) (fun fl s₂ x2 => ?_) fun _ _ x => x.elim
      rcases x2 with ⟨rfl, hd⟩ | ⟨rfl, hn⟩
      · exact after _ hd
      · exact ⟨7 - (k + 1), by omega, k + 1, by omega, rfl, hn⟩
    · rw [decide_eq_false q]
      have : k = 7 := by omega
      subst this
      exact wpAny_execs_nil (after _ (hh1.done w P))
end Mine

end
section
open PySem PySem.W PyProof.Rows PySem.Calls
set_option maxRecDepth 100000
namespace Mine
theorem ld_enum (w : World) : LoadsTo (KK w) (Str.ofString "enumerate") (.type "enumerate") := .inr ⟨rfl, by decide, by decide +kernel⟩
def lawN (i : Nat) (z : Int) : Nat := 1 + z.natAbs % (if i = 1 then 10 ^ 24 else 1000)
def lawP (i : Nat) (z : Int) : Nat := 4 + (z.natAbs / 1000 + 53 * i + 90) % 116
theorem law1 (w : World) {i : Nat} {z : Int} (hi : i ≤ 1) :
    wps PP w (KK w) 14 (fscope (KK w) 319) GT (List.take 2 (wbody (fbody (KK w) 319) 0)) ([(Str.ofString "t", .int i), (Str.ofString "v", .int z)] : Ev) (fun o => o = .next ([(Str.ofString "t", .int i), (Str.ofString "v", .int z), (Str.ofString "n", .int (lawN i z)), (Str.ofString "p", .int (lawP i z))] : Ev)) := by
  have ha : (if z < 0 then -z else z) = (z.natAbs : Int) := by split <;> omega
  (conv => arg 7; arg 2; whnf)
  simp only [List.take_succ_cons, List.take_zero]
  (conv => arg 5; whnf); (conv => arg 6; unfold GT)
  simp only [↓s_nil, ↓s_cons, ↓s_pass, ↓s_brk, ↓s_ret, ↓s_asg, ↓s_tup, ↓s_aug, ↓s_if, ↓s_assert, ↓asg_nil, ↓asg_cons, ↓e_int, ↓e_str, ↓e_bool, ↓e_name, ↓e_bin, ↓e_un, ↓e_bool2, ↓e_if, ↓e_cmp, ↓e_call, ↓e_bits, ↓e_sub, ↓e_tup, ↓t_not, ↓t_bool, ↓t_if, ↓t_cmp, ↓t_name, ↓t_call, ↓t_bin, ↓t_const, ↓t_sub, ↓es_nil, ↓es_cons, ↓b_one, ↓b_and, ↓b_or, ↓a_nil_and, ↓a_nil_or, ↓a_and, ↓a_or, ↓c_one, ↓c_more, ↓d_one, ↓d_more, ↓tupk_tup, ↓intk_int, ↓ksq_next, ↓ksq_ret, ↓ksq_brk, ↓ksq_cont, ↓kdf_ret, ↓kdf_next, ↓klp_next, ↓klp_cont, ↓klp_brk, ↓klp_ret, ↓vl_cons, ↓vl_nil, ↓vg_cons, ↓vl0_cons, ↓upk_nil, ↓upk_cons, ↓bv_add, ↓bv_sub, ↓bv_mul, ↓bv_fdiv, ↓bv_mod, ↓bv_shl, ↓bv_shr, ↓bv_and, ↓bv_xor, ↓bv_pow, ↓av_add, ↓av_sub, ↓av_mul, ↓av_shl, ↓av_shr, ↓av_xor, ↓cv_eq, ↓cv_ne, ↓cv_lt, ↓cv_le, ↓cv_gt, ↓cv_ge, ↓cv_str, ↓cv_tup, ↓cv_in, ↓cv_instr, ↓tr_bool, ↓tr_int, ↓uv_neg, ↓uv_not, ↓br_dec, ↓br_tt, ↓br_ff, ↓br_not, ↓sub2_0, ↓sub2_1, ↓sub4_0, ok_name, ok_call, isG_eq, isL_eq, gk_cons, lc_cons, kg, kl, ↓reduceIte, List.all_cons, List.all_nil, List.isEmpty_cons, nstar, nset, nslice, ncall, ncomp, Bool.and_true, Bool.true_and, Bool.not_false, Bool.not_true, and_true, true_and, ne_eq, not_true, not_false_eq_true, List.length_cons, List.length_nil, ite_not, beq_self_eq_true, decide_false, decide_true, Bool.false_eq_true, ↓String.reduceEq, ↓String.reduceNe, Int.reduceLT, Int.reduceLE, Int.reduceGT, Int.reduceGE, Int.reduceEq, Int.reduceNe, Int.reduceNeg, Int.reduceAdd, Int.reduceSub, Int.reduceMul, Int.reduceToNat, Nat.reduceLT, Nat.reduceLeDiff, Nat.reduceAdd, Nat.reduceMul, Nat.reduceEqDiff]
  refine ⟨known_abs w, (abs_spec w z).mono fun v hv => ?_⟩
  subst hv
  rw [ha]
  have ok : IntMulOk 53 (i : Int) := ok_mul (by decide +kernel) (by
    have : ((i : Int)).natAbs < 2 ^ 1 := by omega
    exact ab_up this (by decide))
  have c1 : ((z.natAbs : Int)).fmod 1000 = ((z.natAbs % 1000 : Nat) : Int) := fmod_nat z.natAbs 1000
  have c2 : ((z.natAbs : Int)).fmod (10 ^ 24) = ((z.natAbs % 10 ^ 24 : Nat) : Int) := fmod_nat z.natAbs (10 ^ 24)
  have c3 : ((z.natAbs : Int)).fdiv 1000 = ((z.natAbs / 1000 : Nat) : Int) := fdiv_nat z.natAbs 1000
  have c4 : (((z.natAbs / 1000 : Nat) : Int) + 53 * (i : Int) + 90).fmod 116 = (((z.natAbs / 1000 + 53 * i + 90) % 116 : Nat) : Int) := by
    rw [← fmod_nat]; congr 1
  have fin : ∀ N : Int, N = lawN i z → Known (KK w) (Str.ofString "abs") ∧ Spec PP w (KK w) 14 (Str.ofString "abs") [PyData.int z] fun a =>
      binv Operator.FloorDiv a (PyData.int 1000) fun a => IntMulOk 53 ↑i ∧ binv Operator.Add a (PyData.int (53 * ↑i)) fun a => binv Operator.Add a (PyData.int 90) fun a => binv Operator.Mod a (PyData.int 116) fun b =>
        binv Operator.Add (PyData.int 4) b fun d_1 => Fl.next ([(Str.ofString "t", PyData.int ↑i), (Str.ofString "v", PyData.int z), (Str.ofString "n", .int N), (Str.ofString "p", d_1)] : Ev) =
          Fl.next ([(Str.ofString "t", PyData.int ↑i), (Str.ofString "v", PyData.int z), (Str.ofString "n", PyData.int ↑(lawN i z)), (Str.ofString "p", PyData.int ↑(lawP i z))] : Ev) := by
    intro N hN
    refine ⟨known_abs w, (abs_spec w z).mono fun v hv => ?_⟩
    subst hv
    rw [ha]
    simp only [↓s_nil, ↓s_cons, ↓s_pass, ↓s_brk, ↓s_ret, ↓s_asg, ↓s_tup, ↓s_aug, ↓s_if, ↓s_assert, ↓asg_nil, ↓asg_cons, ↓e_int, ↓e_str, ↓e_bool, ↓e_name, ↓e_bin, ↓e_un, ↓e_bool2, ↓e_if, ↓e_cmp, ↓e_call, ↓e_bits, ↓e_sub, ↓e_tup, ↓t_not, ↓t_bool, ↓t_if, ↓t_cmp, ↓t_name, ↓t_call, ↓t_bin, ↓t_const, ↓t_sub, ↓es_nil, ↓es_cons, ↓b_one, ↓b_and, ↓b_or, ↓a_nil_and, ↓a_nil_or, ↓a_and, ↓a_or, ↓c_one, ↓c_more, ↓d_one, ↓d_more, ↓tupk_tup, ↓intk_int, ↓ksq_next, ↓ksq_ret, ↓ksq_brk, ↓ksq_cont, ↓kdf_ret, ↓kdf_next, ↓klp_next, ↓klp_cont, ↓klp_brk, ↓klp_ret, ↓vl_cons, ↓vl_nil, ↓vg_cons, ↓vl0_cons, ↓upk_nil, ↓upk_cons, ↓bv_add, ↓bv_sub, ↓bv_mul, ↓bv_fdiv, ↓bv_mod, ↓bv_shl, ↓bv_shr, ↓bv_and, ↓bv_xor, ↓bv_pow, ↓av_add, ↓av_sub, ↓av_mul, ↓av_shl, ↓av_shr, ↓av_xor, ↓cv_eq, ↓cv_ne, ↓cv_lt, ↓cv_le, ↓cv_gt, ↓cv_ge, ↓cv_str, ↓cv_tup, ↓cv_in, ↓cv_instr, ↓tr_bool, ↓tr_int, ↓uv_neg, ↓uv_not, ↓br_dec, ↓br_tt, ↓br_ff, ↓br_not, ↓sub2_0, ↓sub2_1, ↓sub4_0, ok_name, ok_call, isG_eq, isL_eq, gk_cons, lc_cons, kg, kl, ↓reduceIte, List.all_cons, List.all_nil, List.isEmpty_cons, nstar, nset, nslice, ncall, ncomp, Bool.and_true, Bool.true_and, Bool.not_false, Bool.not_true, and_true, true_and, ne_eq, not_true, not_false_eq_true, List.length_cons, List.length_nil, ite_not, beq_self_eq_true, decide_false, decide_true, Bool.false_eq_true, ↓String.reduceEq, ↓String.reduceNe, Int.reduceLT, Int.reduceLE, Int.reduceGT, Int.reduceGE, Int.reduceEq, Int.reduceNe, Int.reduceNeg, Int.reduceAdd, Int.reduceSub, Int.reduceMul, Int.reduceToNat, Nat.reduceLT, Nat.reduceLeDiff, Nat.reduceAdd, Nat.reduceMul, Nat.reduceEqDiff, c3, c4, ok]
    refine ⟨by decide, ?_⟩
    rw [hN]
    unfold lawP
    congr 5
  split
  · rename_i h1
    have : i = 1 := by omega
    subst this
    simp only [↓s_nil, ↓s_cons, ↓s_pass, ↓s_brk, ↓s_ret, ↓s_asg, ↓s_tup, ↓s_aug, ↓s_if, ↓s_assert, ↓asg_nil, ↓asg_cons, ↓e_int, ↓e_str, ↓e_bool, ↓e_name, ↓e_bin, ↓e_un, ↓e_bool2, ↓e_if, ↓e_cmp, ↓e_call, ↓e_bits, ↓e_sub, ↓e_tup, ↓t_not, ↓t_bool, ↓t_if, ↓t_cmp, ↓t_name, ↓t_call, ↓t_bin, ↓t_const, ↓t_sub, ↓es_nil, ↓es_cons, ↓b_one, ↓b_and, ↓b_or, ↓a_nil_and, ↓a_nil_or, ↓a_and, ↓a_or, ↓c_one, ↓c_more, ↓d_one, ↓d_more, ↓tupk_tup, ↓intk_int, ↓ksq_next, ↓ksq_ret, ↓ksq_brk, ↓ksq_cont, ↓kdf_ret, ↓kdf_next, ↓klp_next, ↓klp_cont, ↓klp_brk, ↓klp_ret, ↓vl_cons, ↓vl_nil, ↓vg_cons, ↓vl0_cons, ↓upk_nil, ↓upk_cons, ↓bv_add, ↓bv_sub, ↓bv_mul, ↓bv_fdiv, ↓bv_mod, ↓bv_shl, ↓bv_shr, ↓bv_and, ↓bv_xor, ↓bv_pow, ↓av_add, ↓av_sub, ↓av_mul, ↓av_shl, ↓av_shr, ↓av_xor, ↓cv_eq, ↓cv_ne, ↓cv_lt, ↓cv_le, ↓cv_gt, ↓cv_ge, ↓cv_str, ↓cv_tup, ↓cv_in, ↓cv_instr, ↓tr_bool, ↓tr_int, ↓uv_neg, ↓uv_not, ↓br_dec, ↓br_tt, ↓br_ff, ↓br_not, ↓sub2_0, ↓sub2_1, ↓sub4_0, ok_name, ok_call, isG_eq, isL_eq, gk_cons, lc_cons, kg, kl, ↓reduceIte, List.all_cons, List.all_nil, List.isEmpty_cons, nstar, nset, nslice, ncall, ncomp, Bool.and_true, Bool.true_and, Bool.not_false, Bool.not_true, and_true, true_and, ne_eq, not_true, not_false_eq_true, List.length_cons, List.length_nil, ite_not, beq_self_eq_true, decide_false, decide_true, Bool.false_eq_true, ↓String.reduceEq, ↓String.reduceNe, Int.reduceLT, Int.reduceLE, Int.reduceGT, Int.reduceGE, Int.reduceEq, Int.reduceNe, Int.reduceNeg, Int.reduceAdd, Int.reduceSub, Int.reduceMul, Int.reduceToNat, Nat.reduceLT, Nat.reduceLeDiff, Nat.reduceAdd, Nat.reduceMul, Nat.reduceEqDiff, c2]
    refine ⟨by decide, by decide, ?_⟩
    exact fin _ (by unfold lawN; rw [if_pos rfl]; generalize z.natAbs % 10 ^ 24 = q; omega)
  · rename_i h1
    simp only [↓s_nil, ↓s_cons, ↓s_pass, ↓s_brk, ↓s_ret, ↓s_asg, ↓s_tup, ↓s_aug, ↓s_if, ↓s_assert, ↓asg_nil, ↓asg_cons, ↓e_int, ↓e_str, ↓e_bool, ↓e_name, ↓e_bin, ↓e_un, ↓e_bool2, ↓e_if, ↓e_cmp, ↓e_call, ↓e_bits, ↓e_sub, ↓e_tup, ↓t_not, ↓t_bool, ↓t_if, ↓t_cmp, ↓t_name, ↓t_call, ↓t_bin, ↓t_const, ↓t_sub, ↓es_nil, ↓es_cons, ↓b_one, ↓b_and, ↓b_or, ↓a_nil_and, ↓a_nil_or, ↓a_and, ↓a_or, ↓c_one, ↓c_more, ↓d_one, ↓d_more, ↓tupk_tup, ↓intk_int, ↓ksq_next, ↓ksq_ret, ↓ksq_brk, ↓ksq_cont, ↓kdf_ret, ↓kdf_next, ↓klp_next, ↓klp_cont, ↓klp_brk, ↓klp_ret, ↓vl_cons, ↓vl_nil, ↓vg_cons, ↓vl0_cons, ↓upk_nil, ↓upk_cons, ↓bv_add, ↓bv_sub, ↓bv_mul, ↓bv_fdiv, ↓bv_mod, ↓bv_shl, ↓bv_shr, ↓bv_and, ↓bv_xor, ↓bv_pow, ↓av_add, ↓av_sub, ↓av_mul, ↓av_shl, ↓av_shr, ↓av_xor, ↓cv_eq, ↓cv_ne, ↓cv_lt, ↓cv_le, ↓cv_gt, ↓cv_ge, ↓cv_str, ↓cv_tup, ↓cv_in, ↓cv_instr, ↓tr_bool, ↓tr_int, ↓uv_neg, ↓uv_not, ↓br_dec, ↓br_tt, ↓br_ff, ↓br_not, ↓sub2_0, ↓sub2_1, ↓sub4_0, ok_name, ok_call, isG_eq, isL_eq, gk_cons, lc_cons, kg, kl, ↓reduceIte, List.all_cons, List.all_nil, List.isEmpty_cons, nstar, nset, nslice, ncall, ncomp, Bool.and_true, Bool.true_and, Bool.not_false, Bool.not_true, and_true, true_and, ne_eq, not_true, not_false_eq_true, List.length_cons, List.length_nil, ite_not, beq_self_eq_true, decide_false, decide_true, Bool.false_eq_true, ↓String.reduceEq, ↓String.reduceNe, Int.reduceLT, Int.reduceLE, Int.reduceGT, Int.reduceGE, Int.reduceEq, Int.reduceNe, Int.reduceNeg, Int.reduceAdd, Int.reduceSub, Int.reduceMul, Int.reduceToNat, Nat.reduceLT, Nat.reduceLeDiff, Nat.reduceAdd, Nat.reduceMul, Nat.reduceEqDiff, c1]
    exact fin _ (by unfold lawN; rw [if_neg (by omega)]; generalize z.natAbs % 1000 = q; omega)
theorem lawN_lt {i : Nat} {z : Int} : 1 ≤ lawN i z ∧ lawN i z < 2 ^ 100 := by
  unfold lawN
  split
  · have := Nat.mod_lt z.natAbs (show 0 < 10 ^ 24 by decide)
    omega
  · have := Nat.mod_lt z.natAbs (show 0 < 1000 by decide)
    omega
theorem lawP_lt {i : Nat} {z : Int} : 4 ≤ lawP i z ∧ lawP i z ≤ 119 := by
  unfold lawP
  have := Nat.mod_lt (z.natAbs / 1000 + 53 * i + 90) (show 0 < 116 by decide)
  omega
/-- the law's list: two whole numbers -/
theorem iter_law (w : World) {A : Around} {s : Shared} {H : Heap} {L fa : Addr} {nm : Str} {cd : Value} {ρ : Ev} {ns : List Int} {i1 i2 i3 i4 i5 i6 i7 i8 i9 i10 i11 i12 i13 : PySem.Pos} {j1 j2 j3 j4 : Nat}
    (I : Inn (KK w) H L (fscope (KK w) 319) ρ s) (R : Rm 14 A) (h1 : lk (Str.ofString "script") ρ = some (.list (ns.map .int))) (hl : ns.length ≤ 63) :
    ∀ Q' : Value → Shared → Prop, (∀ s₁ e it l items, Ext s s₁ → IsEnum s₁.heap e it 0 .none → s₁.heap.IsListIter it l 0 → s₁.heap.IsList l items → RVs s₁.heap items.toList ((((ns.take 2) ++ [7, 12]).take 2).map .int) → e ≠ it → s.heap.get? e = none → s.heap.get? it = none → Q' (.ref e) s₁) →
      wpAny (model PP w) A (eval (.Call (.Name (Str.ofString "enumerate") i1) [.Subscript (.BinOp (.Subscript (.Name (Str.ofString "script") i2) (.Slice none (some (.Constant (.int 2) j1 i3)) none i4) i5) .Add (.List [.Constant (.int 7) j2 i6, .Constant (.int 12) j3 i7] i8) i9) (.Slice none (some (.Constant (.int 2) j4 i10)) none i11) i12] [] i13) (envOf nm (fscope (KK w) 319) L fa cd)) Q' (fun _ _ => False) s := by
  intro Q' hq
  refine Call_ (load_global I.here (ld_enum w) I.kind rfl ?_)
  refine callWith_plain (K := KK w) trivial rfl rfl ?_
  refine PyProof.Rows.spliced_more ?_ rfl
  refine sub_slice (T := "list") list_getitem_lookup ?_
  refine wpAny_BinOp (wpAny_Subscript_list_slice ?_)
  refine load_local I h1 (by decide) fun v rv => ?_
  obtain ⟨al, vs, rfl, pl, rvs⟩ := rv.list_inv
  have hz : vs.size = ns.length := by have := rvs.length; simpa using this
  rw [evalPart_none]
  refine wpAny_pure ?_
  rw [evalPart_some]
  refine wpAny_Constant_int ?_
  refine ⟨al, vs, none, some 2, rfl, pl, by rw [hz]; exact Nat.le_trans hl (by decide), .none, .int _ _, ?_⟩
  rw [show (some (2 : Int)) = some ((2 : Nat) : Int) from rfl, slicePick_upto']
  have k1 : Kp s.heap ((s.heap.push { cls := .type "slice", data := .fields #[.none, .int 2 s.toks, .none] }).push { cls := .type "list", data := .seq (vs.toList.take 2).toArray }) := (Kp.push _ _).trans (Kp.push _ _)
  have g1 := Heap.get?_push_size (s.heap.push { cls := .type "slice", data := .fields #[.none, .int 2 s.toks, .none] }) (o := { cls := .type "list", data := .seq (vs.toList.take 2).toArray }) rfl
  rw [Heap.size_push] at g1
  generalize (s.heap.push { cls := .type "slice", data := .fields #[.none, .int 2 s.toks, .none] }).push { cls := .type "list", data := .seq (vs.toList.take 2).toArray } = hA at *
  refine PyProof.Rows.List_ (PyProof.Rows.spliced_more (wpAny_Constant_int (PyProof.Rows.spliced_more (wpAny_Constant_int (PyProof.Rows.spliced_none ?_)) rfl)) rfl)
  refine wpAny_newList ?_
  dsimp only
  have k2 := Kp.push hA { cls := .type "list", data := .seq #[Value.int 7 (s.toks + 1), Value.int 12 (s.toks + 1 + 1)] }
  have g2 := Heap.get?_push_size hA (o := { cls := .type "list", data := .seq #[Value.int 7 (s.toks + 1), Value.int 12 (s.toks + 1 + 1)] }) rfl
  have g1' := k2 _ _ g1
  have sz7 : ((vs.toList.take 2).toArray.size + 2 : Nat) ≤ sizeLine := by
    have : ((vs.toList.take 2).toArray.size + 2 : Nat) ≤ 4 := by simp; omega
    exact Nat.le_trans this (by decide)
  have bare : ∀ t, Ext s { s with heap := hA.push { cls := .type "list", data := .seq #[Value.int 7 (s.toks + 1), Value.int 12 (s.toks + 1 + 1)] }, toks := t } := fun t => ⟨⟨_, _, rfl⟩, k1.trans k2⟩
  have szA : s.heap.objs.size < hA.objs.size := Nat.lt_of_succ_lt (Heap.lt_size g1)
  generalize hhB : hA.push { cls := .type "list", data := .seq #[Value.int 7 (s.toks + 1), Value.int 12 (s.toks + 1 + 1)] } = hB at *
  refine PySem.P.add_list g1' g2 ?_ sz7
  dsimp only
  have k3 := Kp.push hB { cls := .type "list", data := .seq ((vs.toList.take 2).toArray ++ #[Value.int 7 (s.toks + 1), Value.int 12 (s.toks + 1 + 1)]) }
  have g3 := Heap.get?_push_size hB (o := { cls := .type "list", data := .seq ((vs.toList.take 2).toArray ++ #[Value.int 7 (s.toks + 1), Value.int 12 (s.toks + 1 + 1)]) }) rfl
  generalize hhC : hB.push { cls := .type "list", data := .seq ((vs.toList.take 2).toArray ++ #[Value.int 7 (s.toks + 1), Value.int 12 (s.toks + 1 + 1)]) } = hC at *
  refine wpAny_Slice ?_
  rw [evalPart_none]
  refine wpAny_pure ?_
  rw [evalPart_some]
  refine wpAny_Constant_int ?_
  refine wpAny_pure ?_
  dsimp only
  have k4 := Kp.push hC { cls := .type "slice", data := .fields #[.none, .int 2 (s.toks + 1 + 1 + 1), .none] }
  have l3 : (hC.push { cls := .type "slice", data := .fields #[.none, .int 2 (s.toks + 1 + 1 + 1), .none] }).IsList hB.objs.size ((vs.toList.take 2).toArray ++ #[Value.int 7 (s.toks + 1), Value.int 12 (s.toks + 1 + 1)]) := ⟨_, k4 _ _ g3, rfl, _, rfl⟩
  refine ⟨l3.typeIs, wpAny_getItem_list_slice l3 (Heap.IsSliceOf.new ..) .none (.int _ _) .none (by decide) ?_ (by simpa using sz7)⟩
  rw [show (some (2 : Int)) = some ((2 : Nat) : Int) from rfl, slicePick_upto']
  have k5 := Kp.push (hC.push { cls := .type "slice", data := .fields #[.none, .int 2 (s.toks + 1 + 1 + 1), .none] }) { cls := .type "list", data := .seq ((((vs.toList.take 2).toArray ++ #[Value.int 7 (s.toks + 1), Value.int 12 (s.toks + 1 + 1)]).toList.take 2).toArray) }
  have g5 := Heap.get?_push_size (hC.push { cls := .type "slice", data := .fields #[.none, .int 2 (s.toks + 1 + 1 + 1), .none] }) (o := { cls := .type "list", data := .seq ((((vs.toList.take 2).toArray ++ #[Value.int 7 (s.toks + 1), Value.int 12 (s.toks + 1 + 1)]).toList.take 2).toArray) }) rfl
  generalize (hC.push { cls := .type "slice", data := .fields #[.none, .int 2 (s.toks + 1 + 1 + 1), .none] }).push { cls := .type "list", data := .seq ((((vs.toList.take 2).toArray ++ #[Value.int 7 (s.toks + 1), Value.int 12 (s.toks + 1 + 1)]).toList.take 2).toArray) } = hD at *
  have kall : Kp s.heap hD := ((k1.trans k2).trans k3).trans (k4.trans k5)
  refine PyProof.Rows.spliced_none ⟨I.here.x.keeps kall, ?_⟩
  refine call_enumerate_1 g5 fun h' he hit hsz hk => ?_
  have keep' : Kp s.heap h' := kall.trans fun b o e => hk b o e
  have big : s.heap.objs.size ≤ hD.objs.size := by
    have := Heap.lt_size (k5 _ _ (k4 _ _ (k3 _ _ g1')))
    exact Nat.le_of_lt (Nat.lt_of_succ_lt this)
  refine hq _ _ _ _ _ ⟨⟨_, _, rfl⟩, keep'⟩ he hit ⟨_, hk _ _ g5, rfl, _, rfl⟩ ?_ (Nat.succ_ne_self _) (Heap.get?_none_of_le (Nat.le_succ_of_le big)) (Heap.get?_none_of_le big)
  have r1 : RVs h' (vs.toList.take 2 ++ [Value.int 7 (s.toks + 1), Value.int 12 (s.toks + 1 + 1)]) ((ns.map .int).take 2 ++ [.int 7, .int 12]) := (RVs.kp keep' (RVs.take 2 rvs)).append (.cons (.int _ _) (.cons (.int _ _) .nil))
  have r2 := RVs.take 2 r1
  have e1 : (((vs.toList.take 2).toArray ++ #[Value.int 7 (s.toks + 1), Value.int 12 (s.toks + 1 + 1)]).toList.take 2).toArray.toList = (vs.toList.take 2 ++ [Value.int 7 (s.toks + 1), Value.int 12 (s.toks + 1 + 1)]).take 2 := by simp
  have e2 : (((ns.take 2) ++ [7, 12]).take 2).map PyData.int = ((ns.map PyData.int).take 2 ++ [PyData.int 7, PyData.int 12]).take 2 := by simp [List.map_take]
  rw [e1, e2]
  exact r2
end Mine

end
section
open PySem PySem.W PyProof.Rows PySem.Calls
set_option maxRecDepth 100000
namespace Mine
def LEnv (i : Nat) (z : Int) : Ev := [(Str.ofString "t", PyData.int i), (Str.ofString "v", PyData.int z), (Str.ofString "n", PyData.int (lawN i z)), (Str.ofString "p", PyData.int (lawP i z))]
theorem exu_like {A : Around} {L fa : Addr} {nm : Str} {sc : Scope} {cd : Value} {s s' : Shared} (x : ExU [envOf nm sc L fa cd] s s') : Like L s s' :=
  ⟨x.like, fun b o nb e => x.stays b o (hid_get e fun m => by rcases mem_push m with rfl | m; exact nb rfl; cases m)⟩
theorem law_args (w : World) {i : Nat} {z : Int} {i1 i2 i3 i4 i5 i6 i7 i8 i9 i10 i11 i12 i13 i14 i15 : PySem.Pos} {j1 j2 j3 j4 j5 : Nat} :
   wpes PP w (KK w) 14 (fscope (KK w) 319) GT [.Name (Str.ofString "n") i1, .Name (Str.ofString "p") i2, .IfExp (.Compare (.Name (Str.ofString "n") i3) [.LtE] [.Constant (.int 1000) j1 i4] i5) (.Call (.Name (Str.ofString "min") i6) [.Constant (.int 7) j2 i7, .BinOp (.BinOp (.Name (Str.ofString "p") i8) .Sub (.Constant (.int 9) j3 i9) i10) .FloorDiv (.Constant (.int 12) j4 i11) i12] [] i13) (.Constant (.int 0) j5 i14) i15] (LEnv i z)
     (fun ds => ∃ s : Int, ds = [.int (lawN i z), .int (lawP i z), .int s] ∧ s ≤ 7 ∧ (0 < s → lawN i z ≤ 1000 ∧ 12 * s + 9 ≤ lawP i z)) := by
  unfold LEnv
  (conv => arg 5; whnf); (conv => arg 6; unfold GT)
  simp only [↓s_nil, ↓s_cons, ↓s_pass, ↓s_brk, ↓s_ret, ↓s_asg, ↓s_tup, ↓s_aug, ↓s_if, ↓s_assert, ↓asg_nil, ↓asg_cons, ↓e_int, ↓e_str, ↓e_bool, ↓e_name, ↓e_bin, ↓e_un, ↓e_bool2, ↓e_if, ↓e_cmp, ↓e_call, ↓e_bits, ↓e_sub, ↓e_tup, ↓t_not, ↓t_bool, ↓t_if, ↓t_cmp, ↓t_name, ↓t_call, ↓t_bin, ↓t_const, ↓t_sub, ↓es_nil, ↓es_cons, ↓b_one, ↓b_and, ↓b_or, ↓a_nil_and, ↓a_nil_or, ↓a_and, ↓a_or, ↓c_one, ↓c_more, ↓d_one, ↓d_more, ↓tupk_tup, ↓intk_int, ↓ksq_next, ↓ksq_ret, ↓ksq_brk, ↓ksq_cont, ↓kdf_ret, ↓kdf_next, ↓klp_next, ↓klp_cont, ↓klp_brk, ↓klp_ret, ↓vl_cons, ↓vl_nil, ↓vg_cons, ↓vl0_cons, ↓upk_nil, ↓upk_cons, ↓bv_add, ↓bv_sub, ↓bv_mul, ↓bv_fdiv, ↓bv_mod, ↓bv_shl, ↓bv_shr, ↓bv_and, ↓bv_xor, ↓bv_pow, ↓av_add, ↓av_sub, ↓av_mul, ↓av_shl, ↓av_shr, ↓av_xor, ↓cv_eq, ↓cv_ne, ↓cv_lt, ↓cv_le, ↓cv_gt, ↓cv_ge, ↓cv_str, ↓cv_tup, ↓cv_in, ↓cv_instr, ↓tr_bool, ↓tr_int, ↓uv_neg, ↓uv_not, ↓br_dec, ↓br_tt, ↓br_ff, ↓br_not, ↓sub2_0, ↓sub2_1, ↓sub4_0, ok_name, ok_call, isG_eq, isL_eq, gk_cons, lc_cons, kg, kl, ↓reduceIte, List.all_cons, List.all_nil, List.isEmpty_cons, nstar, nset, nslice, ncall, ncomp, Bool.and_true, Bool.true_and, Bool.not_false, Bool.not_true, and_true, true_and, ne_eq, not_true, not_false_eq_true, List.length_cons, List.length_nil, ite_not, beq_self_eq_true, decide_false, decide_true, Bool.false_eq_true, ↓String.reduceEq, ↓String.reduceNe, Int.reduceLT, Int.reduceLE, Int.reduceGT, Int.reduceGE, Int.reduceEq, Int.reduceNe, Int.reduceNeg, Int.reduceAdd, Int.reduceSub, Int.reduceMul, Int.reduceToNat, Nat.reduceLT, Nat.reduceLeDiff, Nat.reduceAdd, Nat.reduceMul, Nat.reduceEqDiff]
  split
  · rename_i hN
    refine ⟨known_min w, by decide, (min_spec w 7 _).mono fun v hv => ?_⟩
    subst hv
    refine ⟨_, rfl, ?_, fun h => ⟨by omega, ?_⟩⟩
    · split <;> omega
    · rw [Int.fdiv_eq_ediv_of_nonneg _ (by decide)] at h ⊢
      split at h <;> (rename_i q; first | rw [if_pos q] | rw [if_neg q]) <;> omega
  · exact ⟨0, rfl, by omega, fun h => by omega⟩
theorem law_turn (w : World) {A : Around} {s : Shared} {H : Heap} {L fa : Addr} {nm : Str} {cd : Value} {i : Nat} {z : Int} (hst : A.frames = some []) (hi : i ≤ 1)
    (R : Rm 14 (A.deeper (envOf nm (fscope (KK w) 319) L fa cd))) (I : Inn (KK w) H L (fscope (KK w) 319) ([(Str.ofString "t", PyData.int i), (Str.ofString "v", PyData.int z)] : Ev) s) :
    wpAny (model PP w) (A.deeper (envOf nm (fscope (KK w) 319) L fa cd)) (execs (wbody (fbody (KK w) 319) 0) (envOf nm (fscope (KK w) 319) L fa cd)) (fun f s₂ => f = .next ∧ ∃ ρ3, True ∧ Inn (KK w) H L (fscope (KK w) 319) ρ3 s₂ ∧ Like L s s₂) (fun _ _ => False) s := by
  obtain ⟨n1, n2⟩ := lawN_lt (i := i) (z := z)
  obtain ⟨p4, p119⟩ := lawP_lt (i := i) (z := z)
  have bn : bl (lawN i z) ≤ 100 := bl_le.mpr n2
  rw [← List.take_append_drop 2 (wbody _ _)]
  refine wps_then (gok w) _ _ _ (law1 w hi) _ _ _ _ _ _ _ _ _ _ R I fun flw s₁ o ho hf lk₁ => ?_
  subst ho
  cases flw <;> first | exact (hf : False).elim | skip
  have I₁ : Inn (KK w) H L (fscope (KK w) 319) (LEnv i z) s₁ := hf
  show wpAny _ _ (execs (List.drop 2 (wbody (fbody (KK w) 319) 0)) _) _ _ _
  (conv => arg 3; arg 1; arg 2; whnf)
  simp only [List.drop_succ_cons, List.drop_zero]
  have off : Off ([] : List Env) H := off_nil
  refine wpAny_execs_cons (wpAny_If (wpAny_isTrue_Not (isTrue_call ?_)))
  refine eval_call (n := 14) (gok w) rfl rfl rfl (.inl (d_ulaw_read w).at') ⟨_, _, rfl, rfl⟩ (law_args w) R I₁ fun s₂ vs ds hds ex₂ I₂ rv₂ => ?_
  obtain ⟨sure, rfl, s7, sp⟩ := hds
  obtain ⟨m₂, F₂, _⟩ := I₂.fr
  have off' : Off [envOf nm (fscope (KK w) 319) L fa cd] H := off.push F₂
  refine read_call w (Around.frames_deeper hst) (FF.nil.push F₂ I₂.kind) R (I₂.gd.kp fun b o e => hid_get (F₂.keep b o e) (off' b o e)) rv₂ n1 n2 p4 p119 s7 sp fun s₃ x₃ => ?_
  refine ⟨true, rfl, ?_⟩
  have I₃ := I₂.exu off' x₃
  have lk₃ : Like L s s₃ := lk₁.trans (ex₂.like.trans (exu_like (A := A) x₃))
  refine wpAny_execs_nil ?_
  dsimp only
  refine wpAny_execs_cons (wpAny_Try_except ?_)
  refine wpAny_execs_cons (wpAny_Expr_any ?_ (by show (ScopeKind.function == .module && _) = false; rfl))
  refine eval_call (n := 14) (k := fun ds => ∃ (q t : Nat) (d' : D), ds = [.tuple [fl 1 q (0 + t) (bl q), d'], .int (lawP i z)]) (gok w) rfl rfl rfl (.inl (d_mpi_sqrt w).at') ⟨_, _, rfl, rfl⟩ ?_ R I₃ fun s₄ vs₄ ds₄ hds₄ ex₄ I₄ rv₄ => ?_
  · unfold LEnv
    (conv => arg 5; whnf); (conv => arg 6; unfold GT)
    simp only [↓s_nil, ↓s_cons, ↓s_pass, ↓s_brk, ↓s_ret, ↓s_asg, ↓s_tup, ↓s_aug, ↓s_if, ↓s_assert, ↓asg_nil, ↓asg_cons, ↓e_int, ↓e_str, ↓e_bool, ↓e_name, ↓e_bin, ↓e_un, ↓e_bool2, ↓e_if, ↓e_cmp, ↓e_call, ↓e_bits, ↓e_sub, ↓e_tup, ↓t_not, ↓t_bool, ↓t_if, ↓t_cmp, ↓t_name, ↓t_call, ↓t_bin, ↓t_const, ↓t_sub, ↓es_nil, ↓es_cons, ↓b_one, ↓b_and, ↓b_or, ↓a_nil_and, ↓a_nil_or, ↓a_and, ↓a_or, ↓c_one, ↓c_more, ↓d_one, ↓d_more, ↓tupk_tup, ↓intk_int, ↓ksq_next, ↓ksq_ret, ↓ksq_brk, ↓ksq_cont, ↓kdf_ret, ↓kdf_next, ↓klp_next, ↓klp_cont, ↓klp_brk, ↓klp_ret, ↓vl_cons, ↓vl_nil, ↓vg_cons, ↓vl0_cons, ↓upk_nil, ↓upk_cons, ↓bv_add, ↓bv_sub, ↓bv_mul, ↓bv_fdiv, ↓bv_mod, ↓bv_shl, ↓bv_shr, ↓bv_and, ↓bv_xor, ↓bv_pow, ↓av_add, ↓av_sub, ↓av_mul, ↓av_shl, ↓av_shr, ↓av_xor, ↓cv_eq, ↓cv_ne, ↓cv_lt, ↓cv_le, ↓cv_gt, ↓cv_ge, ↓cv_str, ↓cv_tup, ↓cv_in, ↓cv_instr, ↓tr_bool, ↓tr_int, ↓uv_neg, ↓uv_not, ↓br_dec, ↓br_tt, ↓br_ff, ↓br_not, ↓sub2_0, ↓sub2_1, ↓sub4_0, ok_name, ok_call, isG_eq, isL_eq, gk_cons, lc_cons, kg, kl, ↓reduceIte, List.all_cons, List.all_nil, List.isEmpty_cons, nstar, nset, nslice, ncall, ncomp, Bool.and_true, Bool.true_and, Bool.not_false, Bool.not_true, and_true, true_and, ne_eq, not_true, not_false_eq_true, List.length_cons, List.length_nil, ite_not, beq_self_eq_true, decide_false, decide_true, Bool.false_eq_true, ↓String.reduceEq, ↓String.reduceNe, Int.reduceLT, Int.reduceLE, Int.reduceGT, Int.reduceGE, Int.reduceEq, Int.reduceNe, Int.reduceNeg, Int.reduceAdd, Int.reduceSub, Int.reduceMul, Int.reduceToNat, Nat.reduceLT, Nat.reduceLeDiff, Nat.reduceAdd, Nat.reduceMul, Nat.reduceEqDiff]
    refine ⟨known_from_int w, (from_int_neg w n1).mono fun x hx => ?_⟩
    refine ⟨known_from_int w, (from_int_pos w n1).mono fun y hy => ?_⟩
    obtain ⟨q, t, _, _, rfl⟩ := hx
    exact ⟨q, t, y, rfl⟩
  · obtain ⟨q, t, d', rfl⟩ := hds₄
    obtain ⟨m₄, F₄, _⟩ := I₄.fr
    refine misqrt_raise w (Around.frames_deeper hst) (FF.nil.push F₄ I₄.kind) (R.mono (by omega)) I₄.here rv₄ fun e s₅ fly => ?_
    refine caught_own (bmB := []) hst I₄ off fly (ld_ComplexResult w) rfl (cls_complex w) fun s₆ x₆ I₆ => ?_
    refine wpAny_execs_cons (wpAny_Pass ?_)
    refine wpAny_execs_nil ?_
    dsimp only
    refine wpAny_execs_nil ?_
    exact ⟨rfl, _, trivial, I₆, lk₃.trans (ex₄.like.trans (exu_like (A := A) x₆))⟩
theorem law_body (w : World) {A : Around} {s : Shared} {H : Heap} {L fa : Addr} {nm : Str} {cd : Value} {ns : List Int} {Q : Flow → Shared → Prop} {E : Value → Shared → Prop} (hst : A.frames = some []) (hl : ns.length ≤ 63)
    (R : Rm 14 (A.deeper (envOf nm (fscope (KK w) 319) L fa cd))) (I : Inn (KK w) H L (fscope (KK w) 319) ([(Str.ofString "script", PyData.list (ns.map PyData.int))] : Ev) s)
    (hq : ∀ s', (∃ m, Fr H L s'.heap m) → (∃ h t, s' = { s with heap := h, toks := t }) → Q (.ret (.bool true)) s') :
    wpAny (model PP w) (A.deeper (envOf nm (fscope (KK w) 319) L fa cd)) (execs (fbody (KK w) 319) (envOf nm (fscope (KK w) 319) L fa cd)) Q E s := by
  refine wpAny_mono (?_ : wpAny _ _ _ _ (fun _ _ => False) s) (fun _ _ x => x) (fun _ _ x => x.elim)
  (conv => arg 3; arg 1; whnf)
  refine wpAny_execs_cons (for_enum (n := 14) (ds := (((ns.take 2) ++ [7, 12]).take 2).map PyData.int) (P := fun _ _ => True) rfl rfl R I (fun _ => rfl) (iter_law w I R rfl hl) trivial (fun i d ρ' s' hd _ I' => ?_) fun s' ρ' _ I' lk' => ?_)
  · obtain ⟨z, rfl⟩ : ∃ z, d = .int z := by
      rw [List.getElem?_map] at hd
      cases q : ((ns.take 2 ++ [7, 12]).take 2)[i]? with
      | none => rw [q] at hd; cases hd
      | some z => rw [q] at hd; cases hd; exact ⟨z, rfl⟩
    have hi : i ≤ 1 := by
      have := (List.getElem?_eq_some_iff.mp hd).1
      simp at this; omega
    have I2 : Inn (KK w) H L (fscope (KK w) 319) ([(Str.ofString "t", PyData.int i), (Str.ofString "v", PyData.int z)] : Ev) s' := I'.weak fun x e h => by
      simp only [lk] at h
      split at h
      · rename_i q; subst q; cases h
        rw [lk_up, if_neg (sne (by decide)), lk_up, if_pos rfl]
      · split at h
        · rename_i q; subst q; cases h
          rw [lk_up, if_pos rfl]
        · cases h
    exact law_turn w hst hi R I2
  · refine wpAny_mono (wps_sound (n := 14) (gok w) _ ρ' (fun o => o = .ret (.bool true)) ?_ _ _ _ _ _ _ _ Q R I' fun f4 s4 o4 ho4 hf4 lk4 => ?_) (fun _ _ x => x) (fun _ _ x => x.elim)
    · (conv => arg 5; whnf); (conv => arg 6; unfold GT)
      simp only [↓s_nil, ↓s_cons, ↓s_pass, ↓s_brk, ↓s_ret, ↓s_asg, ↓s_tup, ↓s_aug, ↓s_if, ↓s_assert, ↓asg_nil, ↓asg_cons, ↓e_int, ↓e_str, ↓e_bool, ↓e_name, ↓e_bin, ↓e_un, ↓e_bool2, ↓e_if, ↓e_cmp, ↓e_call, ↓e_bits, ↓e_sub, ↓e_tup, ↓t_not, ↓t_bool, ↓t_if, ↓t_cmp, ↓t_name, ↓t_call, ↓t_bin, ↓t_const, ↓t_sub, ↓es_nil, ↓es_cons, ↓b_one, ↓b_and, ↓b_or, ↓a_nil_and, ↓a_nil_or, ↓a_and, ↓a_or, ↓c_one, ↓c_more, ↓d_one, ↓d_more, ↓tupk_tup, ↓intk_int, ↓ksq_next, ↓ksq_ret, ↓ksq_brk, ↓ksq_cont, ↓kdf_ret, ↓kdf_next, ↓klp_next, ↓klp_cont, ↓klp_brk, ↓klp_ret, ↓vl_cons, ↓vl_nil, ↓vg_cons, ↓vl0_cons, ↓upk_nil, ↓upk_cons, ↓bv_add, ↓bv_sub, ↓bv_mul, ↓bv_fdiv, ↓bv_mod, ↓bv_shl, ↓bv_shr, ↓bv_and, ↓bv_xor, ↓bv_pow, ↓av_add, ↓av_sub, ↓av_mul, ↓av_shl, ↓av_shr, ↓av_xor, ↓cv_eq, ↓cv_ne, ↓cv_lt, ↓cv_le, ↓cv_gt, ↓cv_ge, ↓cv_str, ↓cv_tup, ↓cv_in, ↓cv_instr, ↓tr_bool, ↓tr_int, ↓uv_neg, ↓uv_not, ↓br_dec, ↓br_tt, ↓br_ff, ↓br_not, ↓sub2_0, ↓sub2_1, ↓sub4_0, ok_name, ok_call, isG_eq, isL_eq, gk_cons, lc_cons, kg, kl, ↓reduceIte, List.all_cons, List.all_nil, List.isEmpty_cons, nstar, nset, nslice, ncall, ncomp, Bool.and_true, Bool.true_and, Bool.not_false, Bool.not_true, and_true, true_and, ne_eq, not_true, not_false_eq_true, List.length_cons, List.length_nil, ite_not, beq_self_eq_true, decide_false, decide_true, Bool.false_eq_true, ↓String.reduceEq, ↓String.reduceNe, Int.reduceLT, Int.reduceLE, Int.reduceGT, Int.reduceGE, Int.reduceEq, Int.reduceNe, Int.reduceNeg, Int.reduceAdd, Int.reduceSub, Int.reduceMul, Int.reduceToNat, Nat.reduceLT, Nat.reduceLeDiff, Nat.reduceAdd, Nat.reduceMul, Nat.reduceEqDiff]
    · subst ho4
      cases f4 <;> first | exact (hf4 : False).elim | skip
      obtain ⟨F4, rv4⟩ := hf4
      obtain rfl := rv4.bool_inv
      exact hq _ F4 (like_sh lk' lk4.1)
end Mine

end
section
open PySem PySem.W PyProof.Rows PySem.Calls
set_option maxRecDepth 100000
namespace Mine
theorem rvs_ints {h : Heap} {vs : List Value} {ns : List Int} (hI : IntsAre vs ns) : RVs h vs (ns.map PyData.int) := by
  induction hI with
  | nil => exact .nil
  | cons _ _ _ ih => exact .cons (.int _ _) ih
theorem rm_caller {nm : Str} {sc : Scope} {L fa : Addr} {cd : Value} : Rm 14 (callerA.deeper (envOf nm sc L fa cd)) := ⟨rfl, by show callerA.depth + 1 + 14 < 900; decide +kernel, by show callerA.units + 3 + 8 * 14 + 200 < cLine; decide +kernel⟩
theorem law_end (w : World) {p : Program} {loose : List Str} {mean : ExcName → Option Value} {mg mb : Str → Option Value} {s₁ : Shared} {h₁ : Heap} {t : Nat} {al : Addr} {vs : List Value} {ns : List Int} {nm : Str} {L fa : Addr} {cd : Value} {m : Str → Option Value} {Q : Flow → Shared → Prop} {E : Value → Shared → Prop}
    (X : (KK w).In s₁.heap) (T : Top p loose mean mg mb s₁.heap) (F : Fr s₁.heap L h₁ m) (hm : m (Str.ofString "script") = some (.ref al)) (hL : s₁.heap.IsList al vs.toArray) (hI : IntsAre vs ns) (hl : ns.length ≤ 63)
    (hq : ∀ h t m', Fr s₁.heap L h m' → Q (.ret (.bool true)) { s₁ with heap := h, toks := t }) :
    wpAny (model PP w) (callerA.deeper (envOf nm (fscope (KK w) 319) L fa cd)) (execs (fbody (KK w) 319) (envOf nm (fscope (KK w) 319) L fa cd)) Q E { s₁ with heap := h₁, toks := t } := by
  refine law_body w (H := s₁.heap) (ns := ns) rfl hl rm_caller ⟨⟨m, F, fun x d h => ?_⟩, ⟨X, T.nolimit, ⟨mg, T.g⟩, ⟨mb, T.b, T.builtins⟩⟩, fun x d h => ?_, rfl⟩ fun s' hF hs => ?_
  · simp only [lk] at h
    split at h
    · rename_i q; subst q; cases h
      exact ⟨_, hm, .lst (isList_kp hL F.keep) (rvs_ints hI)⟩
    · cases h
  · simp only [lk] at h
    split at h
    · rename_i q; subst q; rfl
    · cases h
  · obtain ⟨m', F'⟩ := hF
    obtain ⟨h, t', rfl⟩ := hs
    exact hq h t' m' F'
end Mine

end
section
open PySem PySem.W PyProof.Rows PySem.Calls
set_option maxRecDepth 100000 in
set_option maxHeartbeats 8000000 in
theorem PySem.Challenge.cw_bg5012_01_holds : PySem.Challenge.rw_bg5012_01.Holds := by
  refine hd ?_
  k_go0
  rename Fr _ _ _ _ => fF
  rename IntsAre _ _ => fI
  rename Heap.IsList _ _ _ => fL
  rename Frag.In _ _ => fX
  rename Top _ _ _ _ _ _ => fT
  refine Mine.law_end _ fX fT fF rfl fL fI (by omega) fun h' t' m' F' => ?_
  refine goodW_bool F' (by assumption) ?_ ?_
  · intro _; first | rfl | simp [ClaimW.raises]
  · wrow_post
end
