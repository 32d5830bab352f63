import PyProof.Rows.All
import Wide.All
import OpenK.AllK
import Wide.FinOn
import PySem.Challenge.RW_fc0209_05
open PySem PySem.W PySem.Calls PyProof.Rows PySem.Spec
set_option Elab.async false
set_option maxRecDepth 100000
namespace Mine

/-- abstract values: N are the names of the objects that change -/
inductive V (N : Type) where
  | none
  | bool (b : Bool)
  | int (i : Int)
  | str (s : Str)
  | st (v : Value)
  | tup (vs : List (V N))
  | lst (vs : List (V N))
  | dct (ks vs : List (V N))
  | rng (lo hi st : Int)
  | ref (n : N)
  | cel (n : N)
  | clo (c : Nat) (caps : List (V N))
  | meth (f self : V N)
  | exc (c : Value) (cf : Bool) (ns : List Str) (vs : List (V N))

def V.isCel {N : Type} : V N → Bool
  | .cel _ => true
  | _ => false

def V.isExc {N : Type} : V N → Bool
  | .exc .. => true
  | _ => false

/-- abstract objects -/
inductive AO (N : Type) where
  | inst (c : Addr) (ns : List Str) (vs : List (V N))
  | list (vs : List (V N))
  | dict (ks vs : List (V N))
  | cell (v : Option (V N))
  | busy (o : Obj)

abbrev Sto (N : Type) := N → Option (AO N)
noncomputable def Sto.set {N : Type} (σ : Sto N) (n : N) (o : AO N) : Sto N := fun m => open Classical in if m = n then some o else σ m

inductive Trk (N : Type) where
  | fro (o : Obj)
  | own (n : N)
  | part (n : N)
  | exc (a : Addr) (c : Value) (cf : Bool) (d : Option Addr)
  | tb (a : Addr)
  | tab

structure CodeRow where
  name : Str
  qual : Str
  params : Arguments
  body : FuncBody
  scope : Scope

/-- what is static in a law: the program, the world, the heap behind the top -/
structure Om where
  prog : Program
  w : World
  K : Frag
  B : Heap
  mg : Str → Option Value
  mb : Str → Option Value
  p : Program
  loose : List Str
  mean : ExcName → Option Value
  code : Nat → Option CodeRow
  qualAt : Nat → Nat → Option Str
  tabs : List Addr

abbrev TM (N : Type) := Addr → Option (Trk N)

/-- the free variables' names, as they are gathered -/
def capNames : List (Str × NameKind) → List Str
  | [] => []
  | (x, k) :: r => if k == .free then capNames r ++ [x] else capNames r
abbrev rngOf (lo hi st : Int) (t u w : Tok) : Obj := { cls := .type "range", data := .fields [.int lo t, .int hi u, .int st w].toArray }
abbrev tupOf (its : Array Value) (n : Nat) : Obj := { cls := .type "tuple", data := .seq its n }
abbrev fnRow (r : CodeRow) (cls : List (Str × Addr)) (doc pm cd ct : Value) : Obj :=
  { cls := .type "function", data := .func { name := r.name, qualname := r.qual, params := r.params, body := r.body, scope := r.scope, globals := mainGlobals, closure := cls, defaults := .none, kwdefaults := .none, doc, pyModule := pm, annotations := Option.none, code := cd, closureTuple := ct, builtins := builtinsNs } }

/-- a dict's key and its hash -/
def HashOk (P : Params) : Value → Int → Prop
  | .str s _, h => h = PyData.keyHash P s
  | .int i _, h => h = hashInt i
  | _, _ => False

def KeysAre (P : Params) : List Str → List DictEntry → Prop
  | [], l => l = []
  | n :: ns, l => ∃ e r, l = e :: r ∧ (∃ t, e.key = .str n t) ∧ e.hash = PyData.keyHash P n ∧ KeysAre P ns r

section
variable {N : Type}

/-- a code object and its table -/
def CodeT (T : TM N) (cd : Value) (qual : Str) : Prop :=
  ∃ c o vs t, cd = .ref c ∧ T c = some (.fro o) ∧ o.data = .fields vs ∧ vs[1]? = some (.str qual t)
/-- .. that may make code objects of its own -/
def CodeN (T : TM N) (cd : Value) : Prop :=
  ∃ c P o vs file tf flags tg inF text tt, cd = .ref c ∧ T c = some (.fro o) ∧ T P = some .tab ∧ o.cls = .type "code" ∧ o.data = .fields vs ∧ vs[11]? = some (.ref P) ∧ vs.getD 11 .none = .ref P ∧ vs.getD 18 .none = .str file tf ∧
    vs.getD 7 .none = .int flags tg ∧ vs.getD 9 .none = .bool inF ∧ vs.getD 10 .none = .int text tt ∧ c ≠ P

mutual
def VRep (O : Om) (T : TM N) : V N → Value → Prop
  | .none, v => v = .none
  | .bool b, v => v = .bool b
  | .int i, v => ∃ t, v = .int i t
  | .str s, v => ∃ t, v = .str s t
  | .st u, v => v = u
  | .tup vs, v => ∃ a xs n, v = .ref a ∧ T a = some (.fro (tupOf xs n)) ∧ VReps O T vs xs.toList
  | .lst vs, v => ∃ a xs n, v = .ref a ∧ T a = some (.fro (listOf xs n)) ∧ VReps O T vs xs.toList
  | .dct ks vs, v => ∃ a es n, v = .ref a ∧ a ≠ sysModules ∧ T a = some (.fro (dictOf es n)) ∧ VReps O T ks (es.map (·.key)) ∧ VReps O T vs (es.map (·.val)) ∧ ∀ e ∈ es, HashOk O.w.params e.key e.hash
  | .rng lo hi st, v => ∃ a t u w, v = .ref a ∧ T a = some (.fro (rngOf lo hi st t u w))
  | .ref n, v => ∃ a, v = .ref a ∧ T a = some (.own n)
  | .cel n, v => ∃ a, v = .ref a ∧ T a = some (.own n)
  | .clo c caps, v => ∃ a r cls doc pm cd ct, v = .ref a ∧ O.code c = some r ∧ T a = some (.fro (fnRow r cls doc pm cd ct)) ∧ CodeT T cd r.qual ∧ CodeN T cd ∧ cls.map (·.1) = capNames r.scope.names ∧ Caps O T caps (cls.map (·.2))
  | .meth f s, v => ∃ a fv sv, v = .ref a ∧ T a = some (.fro (methodObj fv sv)) ∧ VRep O T f fv ∧ VRep O T s sv
  | .exc c cf ns vs, v => ∃ a, v = .ref a ∧ ((ns = [] ∧ vs = [] ∧ T a = some (.exc a c cf Option.none)) ∨ ∃ d es n, T a = some (.exc a c cf (some d)) ∧ T d = some (.fro (dictOf es n)) ∧ KeysAre O.w.params ns es ∧ VReps O T vs (es.map (·.val)))
def VReps (O : Om) (T : TM N) : List (V N) → List Value → Prop
  | [], l => l = []
  | v :: vs, l => ∃ x xs, l = x :: xs ∧ VRep O T v x ∧ VReps O T vs xs
def Caps (O : Om) (T : TM N) : List (V N) → List Addr → Prop
  | [], l => l = []
  | v :: vs, l => ∃ x xs, l = x :: xs ∧ ((∃ n, v = .cel n ∧ T x = some (.own n)) ∨ (∃ u o, v.isCel = false ∧ VRep O T v u ∧ T x = some (.fro o) ∧ o.data = .cell (some u))) ∧ Caps O T vs xs
end

def TM.le (T T' : TM N) : Prop := ∀ a t, T a = some t → T' a = some t
theorem TM.le_refl (T : TM N) : T.le T := fun _ _ h => h
theorem TM.le_trans {T T' T'' : TM N} (h : T.le T') (h' : T'.le T'') : T.le T'' := fun a t e => h' a t (h a t e)

theorem CodeT.mono {T T' : TM N} (h : T.le T') {cd : Value} {q : Str} : CodeT T cd q → CodeT T' cd q := fun ⟨c, o, vs, t, a, b, r⟩ => ⟨c, o, vs, t, a, h _ _ b, r⟩
theorem CodeN.mono {T T' : TM N} (h : T.le T') {cd : Value} : CodeN T cd → CodeN T' cd := fun ⟨c, P, o, vs, f, tf, fl, tg, i, tx, tt, a, b, d, r⟩ => ⟨c, P, o, vs, f, tf, fl, tg, i, tx, tt, a, h _ _ b, h _ _ d, r⟩

mutual
theorem VRep.mono {O : Om} {T T' : TM N} (h : T.le T') : ∀ (v : V N) {x : Value}, VRep O T v x → VRep O T' v x
  | .none, _, e => e
  | .bool _, _, e => e
  | .int _, _, e => e
  | .str _, _, e => e
  | .st _, _, e => e
  | .tup vs, _, ⟨a, xs, n, e, f, g⟩ => ⟨a, xs, n, e, h _ _ f, VReps.mono h vs g⟩
  | .lst vs, _, ⟨a, xs, n, e, f, g⟩ => ⟨a, xs, n, e, h _ _ f, VReps.mono h vs g⟩
  | .dct ks vs, _, ⟨a, es, n, e, e', f, g, k, hh⟩ => ⟨a, es, n, e, e', h _ _ f, VReps.mono h ks g, VReps.mono h vs k, hh⟩
  | .rng _ _ _, _, ⟨a, t, u, w, e, f⟩ => ⟨a, t, u, w, e, h _ _ f⟩
  | .ref _, _, ⟨a, e, f⟩ => ⟨a, e, h _ _ f⟩
  | .cel _, _, ⟨a, e, f⟩ => ⟨a, e, h _ _ f⟩
  | .clo _ caps, _, ⟨a, r, cls, doc, pm, cd, ct, e, f, g, k, k', z, l⟩ => ⟨a, r, cls, doc, pm, cd, ct, e, f, h _ _ g, k.mono h, k'.mono h, z, Caps.mono h caps l⟩
  | .meth f s, _, ⟨a, fv, sv, e, g, k, l⟩ => ⟨a, fv, sv, e, h _ _ g, VRep.mono h f k, VRep.mono h s l⟩
  | .exc _ _ _ _, _, ⟨a, e, .inl ⟨p, q, r⟩⟩ => ⟨a, e, .inl ⟨p, q, h _ _ r⟩⟩
  | .exc _ _ _ vs, _, ⟨a, e, .inr ⟨d, es, n, p, q, r, s⟩⟩ => ⟨a, e, .inr ⟨d, es, n, h _ _ p, h _ _ q, r, VReps.mono h vs s⟩⟩
theorem VReps.mono {O : Om} {T T' : TM N} (h : T.le T') : ∀ (vs : List (V N)) {l : List Value}, VReps O T vs l → VReps O T' vs l
  | [], _, e => e
  | v :: vs, _, ⟨x, xs, e, f, g⟩ => ⟨x, xs, e, VRep.mono h v f, VReps.mono h vs g⟩
theorem Caps.mono {O : Om} {T T' : TM N} (h : T.le T') : ∀ (vs : List (V N)) {l : List Addr}, Caps O T vs l → Caps O T' vs l
  | [], _, e => e
  | _ :: vs, _, ⟨x, xs, e, .inl ⟨n, f, k⟩, g⟩ => ⟨x, xs, e, .inl ⟨n, f, h _ _ k⟩, Caps.mono h vs g⟩
  | v :: vs, _, ⟨x, xs, e, .inr ⟨u, o, z, f, k, k'⟩, g⟩ => ⟨x, xs, e, .inr ⟨u, o, z, VRep.mono h v f, h _ _ k, k'⟩, Caps.mono h vs g⟩
end

theorem VReps.nil {O : Om} {T : TM N} : VReps O T ([] : List (V N)) [] := by unfold VReps; rfl
theorem VReps.cons {O : Om} {T : TM N} {v : V N} {x : Value} {vs : List (V N)} {xs : List Value} (h : VRep O T v x) (hs : VReps O T vs xs) : VReps O T (v :: vs) (x :: xs) := by unfold VReps; exact ⟨x, xs, rfl, h, hs⟩
theorem VReps.nil_inv {O : Om} {T : TM N} {xs : List Value} (h : VReps O T ([] : List (V N)) xs) : xs = [] := by unfold VReps at h; exact h
theorem VReps.cons_inv {O : Om} {T : TM N} {v : V N} {vs : List (V N)} {l : List Value} (h : VReps O T (v :: vs) l) : ∃ x xs, l = x :: xs ∧ VRep O T v x ∧ VReps O T vs xs := by unfold VReps at h; exact h
theorem VReps.append {O : Om} {T : TM N} : ∀ {vs ws : List (V N)} {xs ys : List Value}, VReps O T vs xs → VReps O T ws ys → VReps O T (vs ++ ws) (xs ++ ys)
  | [], _, _, _, h, g => by rw [h.nil_inv]; exact g
  | _ :: _, _, _, _, h, g => by obtain ⟨x, xs, rfl, a, b⟩ := h.cons_inv; exact .cons a (b.append g)
theorem VReps.length {O : Om} {T : TM N} : ∀ {vs : List (V N)} {xs : List Value}, VReps O T vs xs → xs.length = vs.length
  | [], _, h => by rw [h.nil_inv]; rfl
  | _ :: _, _, h => by obtain ⟨x, xs, rfl, a, b⟩ := h.cons_inv; simp [b.length]
theorem VReps.get {O : Om} {T : TM N} : ∀ {vs : List (V N)} {xs : List Value}, VReps O T vs xs → ∀ {i : Nat} {v : V N}, vs[i]? = some v → ∃ x, xs[i]? = some x ∧ VRep O T v x
  | [], _, _, _, _, e => by simp at e
  | _ :: _, _, h, 0, _, e => by obtain ⟨x, xs, rfl, a, b⟩ := h.cons_inv; simp at e; subst e; exact ⟨x, rfl, a⟩
  | _ :: _, _, h, i + 1, _, e => by obtain ⟨x, xs, rfl, a, b⟩ := h.cons_inv; simp at e; simpa using b.get e
theorem VReps.get_none {O : Om} {T : TM N} {vs : List (V N)} {xs : List Value} (h : VReps O T vs xs) {i : Nat} (e : vs[i]? = none) : xs[i]? = none := by
  rw [List.getElem?_eq_none_iff] at e ⊢; rw [h.length]; exact e
theorem VReps.take {O : Om} {T : TM N} : ∀ {vs : List (V N)} {xs : List Value} (n : Nat), VReps O T vs xs → VReps O T (vs.take n) (xs.take n)
  | _, _, 0, _ => .nil
  | [], _, _ + 1, h => by rw [h.nil_inv]; exact .nil
  | _ :: _, _, n + 1, h => by obtain ⟨x, xs, rfl, a, b⟩ := h.cons_inv; exact .cons a (b.take n)
theorem VReps.drop {O : Om} {T : TM N} : ∀ {vs : List (V N)} {xs : List Value} (n : Nat), VReps O T vs xs → VReps O T (vs.drop n) (xs.drop n)
  | _, _, 0, h => h
  | [], _, _ + 1, h => by rw [h.nil_inv]; exact .nil
  | _ :: _, _, n + 1, h => by obtain ⟨x, xs, rfl, a, b⟩ := h.cons_inv; exact b.drop n
theorem VReps.set {O : Om} {T : TM N} : ∀ {vs : List (V N)} {xs : List Value} (n : Nat) {v : V N} {x : Value}, VReps O T vs xs → VRep O T v x → VReps O T (vs.set n v) (xs.set n x)
  | [], _, n, _, _, h, _ => by rw [h.nil_inv]; exact .nil
  | _ :: _, _, 0, _, _, h, g => by obtain ⟨x, xs, rfl, a, b⟩ := h.cons_inv; exact .cons g b
  | _ :: _, _, n + 1, _, _, h, g => by obtain ⟨x, xs, rfl, a, b⟩ := h.cons_inv; exact .cons a (b.set n g)

/-- what lies at a named address -/
def OwnRep (O : Om) (T : TM N) (n : N) : AO N → Obj → Prop
  | .inst C _ _, ob => ∃ d, ob = instObj C d ∧ T d = some (.part n)
  | .list vs, ob => ∃ xs k, ob = listOf xs k ∧ VReps O T vs xs.toList
  | .dict ks vs, ob => ∃ es k, ob = dictOf es k ∧ VReps O T ks (es.map (·.key)) ∧ VReps O T vs (es.map (·.val)) ∧ ∀ e ∈ es, HashOk O.w.params e.key e.hash
  | .cell Option.none, ob => ob.data = .cell Option.none
  | .cell (some v), ob => ∃ x, ob.data = .cell (some x) ∧ VRep O T v x
  | .busy o, ob => ob = o
/-- what lies at a tracked address -/
def Cont (O : Om) (T : TM N) (σ : Sto N) : Trk N → Obj → Prop
  | .fro o, ob => ob = o
  | .own n, ob => ∃ o, σ n = some o ∧ OwnRep O T n o ob
  | .part n, ob => ∃ C ns vs es k, σ n = some (.inst C ns vs) ∧ ob = dictOf es k ∧ KeysAre O.w.params ns es ∧ VReps O T vs (es.map (·.val))
  | .exc a c cf d, ob => ∃ vs, ob = { cls := c, dict := d, data := .fields vs } ∧ 6 ≤ vs.size ∧ (vs[1]? = some .none ∨ ∃ b, vs[1]? = some (.ref b) ∧ T b = some (.tb a)) ∧ (cf = true → vs[2]? = some .none)
  | .tb _, ob => ∃ ts, ob = { cls := .type "traceback", data := .fields ts } ∧ ts.size = 11
  | .tab, ob => ∃ ps, ob = tabObj ps ∧ TriplesOk ps.toList ∧ ∀ pos cv, codeAmong pos ps.toList = some cv → ∃ q, O.qualAt pos.line pos.col = some q ∧ CodeT T cv q ∧ CodeN T cv

/-- an exception with a traceback -/
def NotedAt (T : TM N) (h : Heap) (a : Addr) : Prop := ∃ c cf d ob vs b, T a = some (.exc a c cf d) ∧ h.get? a = some ob ∧ ob.data = .fields vs ∧ vs[1]? = some (.ref b)
theorem NotedAt.keep {T T' : TM N} {h h' : Heap} {a : Addr} (x : NotedAt T h a) (le : T.le T') (e : ∀ t, T a = some t → h'.get? a = h.get? a) : NotedAt T' h' a :=
  let ⟨c, cf, d, ob, vs, b, p, q, r⟩ := x; ⟨c, cf, d, ob, vs, b, le _ _ p, (e _ p).trans q, r⟩

/-- a frame's object -/
def FrLike (o : Obj) : Prop := (∀ vs, o.data ≠ .fields vs) ∧ ∀ xs n, o.data ≠ .seq xs n

structure Rep (O : Om) (T : TM N) (Φ : Addr → Option Obj) (σ : Sto N) (h : Heap) : Prop where
  trk : ∀ a t, T a = some t → ∃ ob, h.get? a = some ob ∧ Cont O T σ t ob
  frs : ∀ a o, Φ a = some o → T a = Option.none ∧ (¬ FrLike o → h.get? a = some o) ∧ ∃ sl, h.get? a = some { o with slots := sl }
  own : ∀ n o, σ n = some o → ∃ a, T a = some (.own n)
  inj : ∀ n a b, T a = some (.own n) → T b = some (.own n) → a = b
  pin : ∀ n a b, T a = some (.part n) → T b = some (.part n) → a = b
  base : ∀ b o, O.B.get? b = some o → T b = some (.fro o)
  tabs : ∀ b ∈ O.tabs, T b = some .tab
  noted : ∀ b a, T b = some (.tb a) → NotedAt T h a

end
end Mine
namespace Mine

mutual
inductive ME where
  | none | bool (b : Bool) | int (i : Int) | str (s : Str)
  | st (v : Value)
  | loc (i : Nat) | cel (i : Nat)
  | attr (e : ME) (a : Str)
  | call (f : ME) (as : List ME) (ks : List Str) (vs : List ME)
  | mcall (o : ME) (a : Str) (as : List ME) (ks : List Str) (vs : List ME)
  | scall (f : ME) (as : List ME) (s : ME)
  | bin (op : Operator) (a b : ME)
  | cmp (a : ME) (ops : List CmpOp) (bs : List ME)
  | bop (op : BoolOp) (es : List ME)
  | not (e : ME)
  | neg (e : ME)
  | ite (c a b : ME)
  | lst (es : List ME) | tup (es : List ME) | dct (ks vs : List ME)
  | sub (a i : ME)
  | sli (lo hi : Option ME)
  | comp (elt : ME) (gs : List MG) (sc : Scope) (caps : List (Nat × Nat))
  | lam (c : Nat) (caps : List Nat)
  | bad
inductive MG where
  | mk (t : MT) (it : ME) (ifs : List ME)
inductive MT where
  | loc (i : Nat) | cel (i : Nat)
  | attr (e : ME) (a : Str)
  | sub (e i : ME)
  | tup (ts : List MT)
  | bad
end

mutual
inductive MS where
  | expr (e : ME)
  | asg (ts : List MT) (e : ME)
  | aug (t : MT) (op : Operator) (e : ME)
  | ite (c : ME) (a b : List MS)
  | while (c : ME) (a : List MS)
  | for (t : MT) (e : ME) (a : List MS)
  | ret (e : Option ME)
  | raise (e : Option ME)
  | try (a : List MS) (hs : List MH) (els fin : List MS)
  | del (t : MT)
  | pass | brk | cont
  | defn (c : Nat) (t : MT) (caps : List Nat)
  | bad
inductive MH where
  | mk (t : Option ME) (n : Option Nat) (a : List MS)
end

structure FC where
  scope : Scope
  qual : Str
  nest : Bool

def FC.at (fc : FC) (i : Nat) (x : Str) (k : NameKind) : Prop := fc.scope.names[i]? = some (x, k)

/-- the names of free variables, as closureFor gathers them (the last one first), with their places outside -/
def capsOk (out : FC) : List (Str × NameKind) → List Nat → Prop
  | [], l => l = []
  | (x, k) :: r, l => if k = .free then ∃ i l', l = l' ++ [i] ∧ (out.at i x .cell ∨ out.at i x .free) ∧ capsOk out r l' else capsOk out r l

def globOf (O : Om) (x : Str) : Option Value := match O.mg x with
  | some v => some v
  | Option.none => O.mb x

def noComp : PySem.Expr → Bool
  | .ListComp .. => false
  | .SetComp .. => false
  | .DictComp .. => false
  | _ => true

/-- no call of super -/
def noSuper : PySem.Expr → Bool
  | .Call (.Name id _) [] [] _ => id != ("super" : Str)
  | _ => true

/-- a comprehension's names, as they are met within -/
def relab (sc out : Scope) : Scope := { sc with names := sc.names.map fun (n, k) => if (k == .free && out.kind == .function && out.names.lookup n == some .cell) then (n, .cell) else (n, k) }

mutual
inductive CE (O : Om) : FC → PySem.Expr → ME → Prop where
  | none {fc k p} : CE O fc (.Constant .none k p) .none
  | bool {fc b k p} : CE O fc (.Constant (.bool b) k p) (.bool b)
  | int {fc i k p} : CE O fc (.Constant (.int i) k p) (.int i)
  | str {fc s k p} : CE O fc (.Constant (.str s) k p) (.str s)
  | st {fc i x p v} : fc.at i x .globalImplicit → globOf O x = some v → (x == ("__debug__" : Str)) = false → CE O fc (.Name x p) (.st v)
  | loc {fc i x p} : fc.at i x .local → (x == ("__debug__" : Str)) = false → CE O fc (.Name x p) (.loc i)
  | cel {fc i x p} : fc.at i x .cell → (x == ("__debug__" : Str)) = false → CE O fc (.Name x p) (.cel i)
  | fre {fc i x p} : fc.at i x .free → (x == ("__debug__" : Str)) = false → (x == ("__classdict__" : Str)) = false → CE O fc (.Name x p) (.cel i)
  | attr {fc e m a p} : CE O fc e m → noSuper e = true → CE O fc (.Attribute e a p) (.attr m a)
  | call {fc f m as ms ks kn kv p} : CE O fc f m → (∀ o a q, f ≠ .Attribute o a q) → CEs O fc as ms → CKs O fc ks kn kv → CE O fc (.Call f as ks p) (.call m ms kn kv)
  | scall {fc f m as ms s t sp p} : CE O fc f m → (∀ o a q, f ≠ .Attribute o a q) → CEs O fc as ms → CE O fc s t → CE O fc (.Call f (as ++ [.Starred s sp]) [] p) (.scall m ms t)
  | mcall {fc o m a ap as ms ks kn kv p} : CE O fc o m → CEs O fc as ms → CKs O fc ks kn kv → as.length + ks.length < 20 → noSuper o = true → (ap.endLine == p.line) = true → CE O fc (.Call (.Attribute o a ap) as ks p) (.mcall m a ms kn kv)
  | bin {fc op a b x y p} : CE O fc a x → CE O fc b y → CE O fc (.BinOp a op b p) (.bin op x y)
  | cmp {fc a x ops bs ys p} : CE O fc a x → CEs O fc bs ys → (∀ b ∈ bs, ∀ e k q, b ≠ .Set e k q) → CE O fc (.Compare a ops bs p) (.cmp x ops ys)
  | bop {fc op es ms p} : CEs O fc es ms → CE O fc (.BoolOp op es p) (.bop op ms)
  | not {fc e m p} : CE O fc e m → CE O fc (.UnaryOp .Not e p) (.not m)
  | neg {fc e m p} : CE O fc e m → CE O fc (.UnaryOp .USub e p) (.neg m)
  | ite {fc c a b x y z p} : CE O fc c x → CE O fc a y → CE O fc b z → CE O fc (.IfExp c a b p) (.ite x y z)
  | lst {fc es ms p} : CEs O fc es ms → CE O fc (.List es p) (.lst ms)
  | tup {fc es k ms p} : CEs O fc es ms → CE O fc (.Tuple es k p) (.tup ms)
  | dct {fc ks vs ms ns p} : CEs O fc ks ms → CEs O fc vs ns → ks.length = vs.length → ks.length < 10 → CE O fc (.Dict (ks.map some) vs p) (.dct ms ns)
  | sub {fc a i x y p} : CE O fc a x → CE O fc i y → CE O fc (.Subscript a i p) (.sub x y)
  | sli {fc a b x y p} : CEo O fc a x → CEo O fc b y → CE O fc (.Slice a b Option.none p) (.sli x y)
  | comp {fc elt m gs ms sc p caps} : sc.kind = .function → (sc.names.map (·.1)).Nodup → (∀ x ∈ sc.names, x.2 ≠ .cell) → sc.isGenerator = false → sc.isCoroutine = false → sc.more = [] →
      (∀ j x, sc.names[j]? = some (x, .free) → ∃ i, caps.lookup j = some i ∧ (fc.at i x .cell ∨ fc.at i x .free)) →
      CE O ⟨relab sc fc.scope, fc.qual, fc.nest⟩ elt m → CGs O fc ⟨relab sc fc.scope, fc.qual, fc.nest⟩ gs ms → CE O fc (.ListComp elt gs sc p) (.comp m ms sc caps)
  | lam {fc args body sc p c caps} : O.code c = some ⟨("<lambda>" : Str), fc.qual ++ ("<lambda>" : Str), args, .expr body, sc⟩ → O.qualAt p.line p.col = some (fc.qual ++ ("<lambda>" : Str)) → args.defaults = [] → args.kw_defaults = [] → args.kwonlyargs = [] →
      capsOk fc sc.names caps → CE O fc (.Lambda args body sc p) (.lam c caps)
  | bad {fc e} : noComp e = true → CE O fc e .bad
inductive CEs (O : Om) : FC → List PySem.Expr → List ME → Prop where
  | nil {fc} : CEs O fc [] []
  | cons {fc e m es ms} : CE O fc e m → (∀ t p, e ≠ .Starred t p) → CEs O fc es ms → CEs O fc (e :: es) (m :: ms)
inductive CKs (O : Om) : FC → List Keyword → List Str → List ME → Prop where
  | nil {fc} : CKs O fc [] [] []
  | cons {fc x e m p ks kn kv} : CE O fc e m → CKs O fc ks kn kv → CKs O fc (⟨some x, e, p⟩ :: ks) (x :: kn) (m :: kv)
inductive CEo (O : Om) : FC → Option PySem.Expr → Option ME → Prop where
  | none {fc} : CEo O fc Option.none Option.none
  | some {fc e m} : CE O fc e m → CEo O fc (some e) (some m)
/-- generators: the first one's source stands outside -/
inductive CGs (O : Om) : FC → FC → List Comprehension → List MG → Prop where
  | one {fo fc t mt it mi ifs ms} : CT O fc t mt → CE O fo it mi → CEs O fc ifs ms → (∀ e k q, it ≠ .Set e k q) → CGs O fo fc [⟨t, it, ifs, 0⟩] [.mk mt mi ms]
  | cons {fo fc t mt it mi ifs ms g gs r} : CT O fc t mt → CE O fo it mi → CEs O fc ifs ms → (∀ e k q, it ≠ .Set e k q) → CGs O fc fc (g :: gs) r → CGs O fo fc (⟨t, it, ifs, 0⟩ :: g :: gs) (.mk mt mi ms :: r)
inductive CT (O : Om) : FC → PySem.Expr → MT → Prop where
  | loc {fc i x p} : fc.at i x .local → CT O fc (.Name x p) (.loc i)
  | cel {fc i x p} : fc.at i x .cell → CT O fc (.Name x p) (.cel i)
  | attr {fc e m a p} : CE O fc e m → CT O fc (.Attribute e a p) (.attr m a)
  | sub {fc e m i n p} : CE O fc e m → CE O fc i n → CT O fc (.Subscript e i p) (.sub m n)
  | tup {fc ts k ms p} : CTs O fc ts ms → CT O fc (.Tuple ts k p) (.tup ms)
  | bad {fc e} : CT O fc e .bad
inductive CTs (O : Om) : FC → List PySem.Expr → List MT → Prop where
  | nil {fc} : CTs O fc [] []
  | cons {fc e m es ms} : CT O fc e m → (∀ t p, e ≠ .Starred t p) → CTs O fc es ms → CTs O fc (e :: es) (m :: ms)
end

mutual
inductive CS (O : Om) : FC → PySem.Stmt → MS → Prop where
  | expr {fc e m p} : CE O fc e m → (∀ a b c d, e ≠ .ListComp a b c d) → CS O fc (.Expr e p) (.expr m)
  | asg {fc ts mts e m p} : CTs O fc ts mts → CE O fc e m → CS O fc (.Assign ts e p) (.asg mts m)
  | aug {fc t mt op e m p} : CT O fc t mt → CE O fc e m → CS O fc (.AugAssign t op e p) (.aug mt op m)
  | ite {fc c m a x b y p} : CE O fc c m → CSs O fc a x → CSs O fc b y → CS O fc (.If c a b p) (.ite m x y)
  | while {fc c m a x p} : CE O fc c m → CSs O fc a x → CS O fc (.While c a [] p) (.while m x)
  | for {fc t mt e m a x p} : CT O fc t mt → CE O fc e m → CSs O fc a x → (∀ l k q, e ≠ .Set l k q) → CS O fc (.For t e a [] p) (.for mt m x)
  | ret {fc e m p} : CEo O fc e m → CS O fc (.Return e p) (.ret m)
  | raise {fc e m p} : CEo O fc e m → CS O fc (.Raise e Option.none p) (.raise m)
  | try {fc a x hs ms b y f z p} : CSs O fc a x → CHs O fc hs ms → CSs O fc b y → CSs O fc f z → CS O fc (.Try a hs b f p) (.try x ms y z)
  | del {fc t mt p} : CT O fc t mt → CS O fc (.Delete [t] p) (.del mt)
  | pass {fc p} : CS O fc (.Pass p) .pass
  | brk {fc p} : CS O fc (.Break p) .brk
  | cont {fc p} : CS O fc (.Continue p) .cont
  | defn {fc name args body sc p c i k mt caps} : O.code c = some ⟨name, fc.qual ++ name, args, .stmts body, sc⟩ → O.qualAt p.line p.col = some (fc.qual ++ name) → args.defaults = [] → args.kw_defaults = [] → args.kwonlyargs = [] →
      (∀ a ∈ args.posonlyargs ++ args.args, a.annotation = Option.none) → args.vararg = Option.none → args.kwarg = Option.none →
      fc.at i name k → ((k = .local ∧ mt = .loc i) ∨ (k = .cell ∧ mt = .cel i)) → capsOk fc sc.names caps → CS O fc (.FunctionDef name args body [] Option.none [] sc Option.none name p) (.defn c mt caps)
  | bad {fc s} : CS O fc s .bad
inductive CSs (O : Om) : FC → List PySem.Stmt → List MS → Prop where
  | nil {fc} : CSs O fc [] []
  | cons {fc s m r ms} : CS O fc s m → CSs O fc r ms → CSs O fc (s :: r) (m :: ms)
inductive CHs (O : Om) : FC → List ExceptHandler → List MH → Prop where
  | nil {fc} : CHs O fc [] []
  | cons {fc t mt n mn a x p hs ms} : CEo O fc t mt → (match n, mn with | Option.none, Option.none => True | some y, some i => fc.at i y .local | _, _ => False) → CSs O fc a x → CHs O fc hs ms → CHs O fc (.ExceptHandler t n a p :: hs) (.mk mt mn x :: ms)
end
end Mine
set_option linter.unusedVariables false
namespace Mine

/-! looking whether a compact text is the text's own -/
abbrev CR := List (Nat × Nat × CodeRow)
abbrev CO := Option CR
def cT (b : Bool) : CO := if b then some [] else none
def cB (x y : CO) : CO := match x with
  | some l => (match y with
    | some r => some (l ++ r)
    | none => none)
  | none => none
def cR (l c : Nat) (r : CodeRow) : CO := some [(l, c, r)]
def codeKey (l c : Nat) : Nat := l * 65536 + c
def Okc (O : Om) (x : CO) : Prop := ∃ l, x = some l ∧ ∀ z ∈ l, O.code (codeKey z.1 z.2.1) = some z.2.2 ∧ O.qualAt z.1 z.2.1 = some z.2.2.qual
section
variable {O : Om}
theorem okT {b : Bool} (h : Okc O (cT b)) : b = true := by
  obtain ⟨l, e, _⟩ := h
  cases b with
  | true => rfl
  | false => cases e
theorem okB {x y : CO} (h : Okc O (cB x y)) : Okc O x ∧ Okc O y := by
  obtain ⟨l, e, k⟩ := h
  cases x with
  | none => cases e
  | some a =>
    cases y with
    | none => cases e
    | some b =>
      cases e
      exact ⟨⟨a, rfl, fun z hz => k z (List.mem_append_left _ hz)⟩, ⟨b, rfl, fun z hz => k z (List.mem_append_right _ hz)⟩⟩
theorem okR {l c : Nat} {r : CodeRow} (h : Okc O (cR l c r)) : O.code (codeKey l c) = some r ∧ O.qualAt l c = some r.qual := by
  obtain ⟨L, e, k⟩ := h
  unfold cR at e
  injection e with e
  subst e
  have := k (l, c, r) (List.mem_singleton.mpr rfl)
  exact this
theorem okN (h : Okc O none) : False := by obtain ⟨_, e, _⟩ := h; cases e
end

def cL {α β : Type} (f : α → β → CO) : List α → List β → CO
  | [], [] => cT true
  | a :: as, b :: bs => cB (f a b) (cL f as bs)
  | _, _ => none
def cO {α β : Type} (f : α → β → CO) : Option α → Option β → CO
  | none, none => cT true
  | some a, some b => f a b
  | _, _ => none
def notStar : PySem.Expr → Bool
  | .Starred .. => false
  | _ => true
def notSet : PySem.Expr → Bool
  | .Set .. => false
  | _ => true
def notAttr : PySem.Expr → Bool
  | .Attribute .. => false
  | _ => true
def notLC : PySem.Expr → Bool
  | .ListComp .. => false
  | _ => true
def cStar (f : PySem.Expr → ME → CO) : List PySem.Expr → List ME → ME → CO
  | [.Starred s _], [], t => f s t
  | e :: es, m :: ms, t => cB (cT (notStar e)) (cB (f e m) (cStar f es ms t))
  | _, _, _ => none
def cKs (f : PySem.Expr → ME → CO) : List Keyword → List Str → List ME → CO
  | [], [], [] => cT true
  | k :: ks, n :: ns, m :: ms => cB (cT (decide (k.arg = some n))) (cB (f k.value m) (cKs f ks ns ms))
  | _, _, _ => none
def capsB (out : FC) : List (Str × NameKind) → List Nat → Bool
  | [], l => l.isEmpty
  | (x, k) :: r, l => if k = .free then (match l with
      | i :: l' => (decide (out.scope.names[i]? = some (x, .cell)) || decide (out.scope.names[i]? = some (x, .free))) && capsB out r l'
      | [] => false)
    else capsB out r l
theorem capsB_ok {out : FC} : ∀ {ns : List (Str × NameKind)} {l : List Nat}, capsB out ns l = true → capsOk out ns l.reverse
  | [], l, h => by unfold capsB at h; unfold capsOk; simp at h; simp [h]
  | (x, k) :: r, l, h => by
    unfold capsB at h; unfold capsOk
    split at h
    · rename_i hk
      rw [if_pos hk]
      cases l with
      | nil => cases h
      | cons i l' =>
        simp only [Bool.and_eq_true, Bool.or_eq_true, decide_eq_true_eq] at h
        exact ⟨i, l'.reverse, by simp, h.1, capsB_ok h.2⟩
    · rename_i hk
      rw [if_neg hk]; exact capsB_ok h
def freeOk (out : FC) (caps : List (Nat × Nat)) : Nat → List (Str × NameKind) → Bool
  | _, [] => true
  | j, (x, k) :: r => (if k = .free then (match caps.lookup j with
      | some i => decide (out.scope.names[i]? = some (x, .cell)) || decide (out.scope.names[i]? = some (x, .free))
      | none => false) else true) && freeOk out caps (j + 1) r
theorem freeOk_ok {out : FC} {caps : List (Nat × Nat)} : ∀ {ns : List (Str × NameKind)} {k : Nat}, freeOk out caps k ns = true → ∀ j x, ns[j]? = some (x, .free) → ∃ i, caps.lookup (k + j) = some i ∧ (out.at i x .cell ∨ out.at i x .free)
  | [], _, _ => fun j x h => by simp at h
  | (y, kk) :: r, k, h => fun j x hj => by
    unfold freeOk at h
    rw [Bool.and_eq_true] at h
    cases j with
    | zero =>
      simp at hj
      obtain ⟨rfl, rfl⟩ := hj
      have h1 := h.1
      rw [if_pos rfl] at h1
      split at h1
      · rename_i i hi
        simp only [Bool.or_eq_true, decide_eq_true_eq] at h1
        exact ⟨i, hi, h1⟩
      · cases h1
    | succ j =>
      have := freeOk_ok h.2 j x (by simpa using hj)
      rwa [Nat.add_assoc, Nat.add_comm 1] at this
abbrev dbg : Str := ("__debug__" : Str)

mutual
def chkE (G : List (Str × Value)) : Nat → FC → PySem.Expr → ME → CO
  | 0, _, _, _ => none
  | n + 1, fc, e, m => match m with
    | .bad => cT (noComp e)
    | .none => (match e with | .Constant .none _ _ => cT true | _ => none)
    | .bool b => (match e with | .Constant (.bool b') _ _ => cT (decide (b = b')) | _ => none)
    | .int b => (match e with | .Constant (.int b') _ _ => cT (decide (b = b')) | _ => none)
    | .str b => (match e with | .Constant (.str b') _ _ => cT (decide (b = b')) | _ => none)
    | .st v => (match e with | .Name x _ => cT (fc.scope.names.contains (x, .globalImplicit) && decide (G.lookup x = some v) && !(x == dbg)) | _ => none)
    | .loc i => (match e with | .Name x _ => cT (decide (fc.scope.names[i]? = some (x, .local)) && !(x == dbg)) | _ => none)
    | .cel i => (match e with | .Name x _ => cT ((decide (fc.scope.names[i]? = some (x, .cell)) || (decide (fc.scope.names[i]? = some (x, .free)) && !(x == ("__classdict__" : Str)))) && !(x == dbg)) | _ => none)
    | .attr m a => (match e with | .Attribute e a' _ => cB (cT (noSuper e && decide (a = a'))) (chkE G n fc e m) | _ => none)
    | .call m ms kn kv => (match e with | .Call f as ks _ => cB (cT (notAttr f && as.all notStar)) (cB (chkE G n fc f m) (cB (cL (chkE G n fc) as ms) (cKs (chkE G n fc) ks kn kv))) | _ => none)
    | .mcall m a ms kn kv => (match e with | .Call (.Attribute o a' ap) as ks p => cB (cT (decide (a = a') && noSuper o && as.all notStar && decide (as.length + ks.length < 20) && (ap.endLine == p.line))) (cB (chkE G n fc o m) (cB (cL (chkE G n fc) as ms) (cKs (chkE G n fc) ks kn kv))) | _ => none)
    | .scall m ms t => (match e with | .Call f as [] _ => cB (cT (notAttr f)) (cB (chkE G n fc f m) (cStar (chkE G n fc) as ms t)) | _ => none)
    | .bin op a b => (match e with | .BinOp x op' y _ => cB (cT (decide (op = op'))) (cB (chkE G n fc x a) (chkE G n fc y b)) | _ => none)
    | .cmp a ops bs => (match e with | .Compare x ops' ys _ => cB (cT (decide (ops = ops') && ys.all notSet && ys.all notStar)) (cB (chkE G n fc x a) (cL (chkE G n fc) ys bs)) | _ => none)
    | .bop op es => (match e with | .BoolOp op' xs _ => cB (cT (decide (op = op') && xs.all notStar)) (cL (chkE G n fc) xs es) | _ => none)
    | .not a => (match e with | .UnaryOp .Not x _ => chkE G n fc x a | _ => none)
    | .neg a => (match e with | .UnaryOp .USub x _ => chkE G n fc x a | _ => none)
    | .ite a b d => (match e with | .IfExp x y z _ => cB (chkE G n fc x a) (cB (chkE G n fc y b) (chkE G n fc z d)) | _ => none)
    | .lst es => (match e with | .List xs _ => cB (cT (xs.all notStar)) (cL (chkE G n fc) xs es) | _ => none)
    | .tup es => (match e with | .Tuple xs _ _ => cB (cT (xs.all notStar)) (cL (chkE G n fc) xs es) | _ => none)
    | .dct ks vs => (match e with | .Dict xs ys _ => cB (cT (xs.all (·.isSome) && (xs.filterMap id).all notStar && ys.all notStar && decide (xs.length = ys.length) && decide (xs.length < 10))) (cB (cL (chkE G n fc) (xs.filterMap id) ks) (cL (chkE G n fc) ys vs)) | _ => none)
    | .sub a i => (match e with | .Subscript x y _ => cB (chkE G n fc x a) (chkE G n fc y i) | _ => none)
    | .sli lo hi => (match e with | .Slice x y none _ => cB (cO (chkE G n fc) x lo) (cO (chkE G n fc) y hi) | _ => none)
    | .comp elt gs sc caps => (match e with
      | .ListComp x ys sc' _ => cB (cT (decide (sc = sc') && decide (sc.kind = .function) && decide ((sc.names.map (·.1)).Nodup) && sc.names.all (fun x => decide (x.2 ≠ .cell)) && !sc.isGenerator && !sc.isCoroutine && sc.more.isEmpty && freeOk fc caps 0 sc.names))
          (cB (chkE G n ⟨relab sc fc.scope, fc.qual, fc.nest⟩ x elt) (chkG G n fc ⟨relab sc fc.scope, fc.qual, fc.nest⟩ ys gs))
      | _ => none)
    | .lam c caps => (match e with
      | .Lambda args body sc p => cB (cT (decide (c = codeKey p.line p.col) && args.defaults.isEmpty && args.kw_defaults.isEmpty && args.kwonlyargs.isEmpty && capsB fc sc.names caps.reverse)) (cR p.line p.col ⟨("<lambda>" : Str), fc.qual ++ ("<lambda>" : Str), args, .expr body, sc⟩)
      | _ => none)
def chkG (G : List (Str × Value)) : Nat → FC → FC → List Comprehension → List MG → CO
  | 0, _, _, _, _ => none
  | n + 1, fo, fc, gs, ms => match gs with
    | [g] => (match ms with
      | [.mk mt mi mf] => cB (cT (decide (g.is_async = 0) && notSet g.iter && g.ifs.all notStar)) (cB (chkT G n fc g.target mt) (cB (chkE G n fo g.iter mi) (cL (chkE G n fc) g.ifs mf)))
      | _ => none)
    | g :: g' :: gs => (match ms with
      | .mk mt mi mf :: ms => cB (cT (decide (g.is_async = 0) && notSet g.iter && g.ifs.all notStar)) (cB (chkT G n fc g.target mt) (cB (chkE G n fo g.iter mi) (cB (cL (chkE G n fc) g.ifs mf) (chkG G n fc fc (g' :: gs) ms))))
      | _ => none)
    | _ => none
def chkT (G : List (Str × Value)) : Nat → FC → PySem.Expr → MT → CO
  | 0, _, _, _ => none
  | n + 1, fc, e, t => match t with
    | .bad => cT true
    | .loc i => (match e with | .Name x _ => cT (decide (fc.scope.names[i]? = some (x, .local))) | _ => none)
    | .cel i => (match e with | .Name x _ => cT (decide (fc.scope.names[i]? = some (x, .cell))) | _ => none)
    | .attr m a => (match e with | .Attribute e a' _ => cB (cT (decide (a = a'))) (chkE G n fc e m) | _ => none)
    | .sub a i => (match e with | .Subscript x y _ => cB (chkE G n fc x a) (chkE G n fc y i) | _ => none)
    | .tup ts => (match e with | .Tuple xs _ _ => cB (cT (xs.all notStar)) (cL (chkT G n fc) xs ts) | _ => none)
end

section
variable {O : Om} {G : List (Str × Value)}
theorem of_notStar {e : PySem.Expr} (h : notStar e = true) : ∀ t p, e ≠ .Starred t p := fun t p q => by subst q; cases h
theorem of_notSet {e : PySem.Expr} (h : notSet e = true) : ∀ a k p, e ≠ .Set a k p := fun t k p q => by subst q; cases h
theorem cL_CEs {fc : FC} {f : PySem.Expr → ME → CO} (hf : ∀ e m, Okc O (f e m) → CE O fc e m) : ∀ {es : List PySem.Expr} {ms : List ME}, es.all notStar = true → Okc O (cL f es ms) → CEs O fc es ms
  | [], [], _, _ => .nil
  | e :: es, m :: ms, hs, h => by
    rw [List.all_cons, Bool.and_eq_true] at hs
    unfold cL at h
    obtain ⟨h1, h2⟩ := okB h
    exact .cons (hf _ _ h1) (of_notStar hs.1) (cL_CEs hf hs.2 h2)
  | [], _ :: _, _, h => (okN h).elim
  | _ :: _, [], _, h => (okN h).elim
theorem cL_CTs {fc : FC} {f : PySem.Expr → MT → CO} (hf : ∀ e m, Okc O (f e m) → CT O fc e m) : ∀ {es : List PySem.Expr} {ms : List MT}, es.all notStar = true → Okc O (cL f es ms) → CTs O fc es ms
  | [], [], _, _ => .nil
  | e :: es, m :: ms, hs, h => by
    rw [List.all_cons, Bool.and_eq_true] at hs
    unfold cL at h
    obtain ⟨h1, h2⟩ := okB h
    exact .cons (hf _ _ h1) (of_notStar hs.1) (cL_CTs hf hs.2 h2)
  | [], _ :: _, _, h => (okN h).elim
  | _ :: _, [], _, h => (okN h).elim
theorem cKs_ok {fc : FC} {f : PySem.Expr → ME → CO} (hf : ∀ e m, Okc O (f e m) → CE O fc e m) : ∀ {ks : List Keyword} {ns : List Str} {ms : List ME}, Okc O (cKs f ks ns ms) → CKs O fc ks ns ms
  | [], [], [], _ => .nil
  | ⟨a, e, p⟩ :: ks, n :: ns, m :: ms, h => by
    unfold cKs at h
    obtain ⟨h1, h2⟩ := okB h
    obtain ⟨h2, h3⟩ := okB h2
    have := of_decide_eq_true (okT h1)
    dsimp only at this
    subst this
    exact .cons (hf _ _ h2) (cKs_ok hf h3)
  | [], _ :: _, _, h => (okN h).elim
  | [], [], _ :: _, h => (okN h).elim
  | _ :: _, [], _, h => (okN h).elim
  | _ :: _, _ :: _, [], h => (okN h).elim
theorem cStar_ok {fc : FC} {f : PySem.Expr → ME → CO} (hf : ∀ e m, Okc O (f e m) → CE O fc e m) : ∀ {es : List PySem.Expr} {ms : List ME} {t : ME}, Okc O (cStar f es ms t) → ∃ as s sp, es = as ++ [.Starred s sp] ∧ CEs O fc as ms ∧ CE O fc s t
  | es, ms, t, h => by
    unfold cStar at h
    split at h
    · exact ⟨[], _, _, rfl, .nil, hf _ _ h⟩
    · obtain ⟨h1, h2⟩ := okB h
      obtain ⟨g2, g3⟩ := okB h2
      obtain ⟨as, s, sp, e, h4, h5⟩ := cStar_ok hf g3
      exact ⟨_ :: as, s, sp, by rw [e]; rfl, .cons (hf _ _ g2) (of_notStar (okT h1)) h4, h5⟩
    · exact (okN h).elim
theorem filterMap_id_map {α : Type} : ∀ {l : List (Option α)}, l.all (·.isSome) = true → (l.filterMap id).map some = l
  | [], _ => rfl
  | none :: r, h => by simp at h
  | some a :: r, h => by simp at h; simp; exact filterMap_id_map (by simpa using h)
theorem mem_at {α : Type} [BEq α] [LawfulBEq α] {l : List α} {x : α} (h : l.contains x = true) : ∃ i : Nat, l[i]? = some x := List.getElem?_of_mem (by simpa using h)

theorem cg_eta {g : Comprehension} (h : g.is_async = 0) : g = ⟨g.target, g.iter, g.ifs, 0⟩ := by cases g; cases h; rfl
mutual
theorem chkE_ok (hG : ∀ x v, G.lookup x = some v → globOf O x = some v) : ∀ (n : Nat) (fc : FC) (e : PySem.Expr) (m : ME), Okc O (chkE G n fc e m) → CE O fc e m
  | 0, _, _, _, h => by unfold chkE at h; exact (okN h).elim
  | n + 1, fc, e, m, h => by
    have ih := chkE_ok hG n
    have ihG := chkG_ok hG n
    unfold chkE at h
    cases m <;> dsimp only at h
    case bad => exact .bad (okT h)
    case none =>
      split at h
      rotate_left
      · exact (okN h).elim
      exact .none
    case bool =>
      split at h
      rotate_left
      · exact (okN h).elim
      cases of_decide_eq_true (okT h); exact .bool
    case int =>
      split at h
      rotate_left
      · exact (okN h).elim
      cases of_decide_eq_true (okT h); exact .int
    case str =>
      split at h
      rotate_left
      · exact (okN h).elim
      cases of_decide_eq_true (okT h); exact .str
    case st =>
      split at h
      rotate_left
      · exact (okN h).elim
      have h := okT h
      simp only [Bool.and_eq_true, decide_eq_true_eq, Bool.not_eq_true'] at h
      obtain ⟨i, hi⟩ := mem_at h.1.1
      exact .st hi (hG _ _ h.1.2) h.2
    case loc =>
      split at h
      rotate_left
      · exact (okN h).elim
      have h := okT h
      simp only [Bool.and_eq_true, decide_eq_true_eq, Bool.not_eq_true'] at h
      exact .loc h.1 h.2
    case cel =>
      split at h
      rotate_left
      · exact (okN h).elim
      have h := okT h
      simp only [Bool.and_eq_true, Bool.or_eq_true, decide_eq_true_eq, Bool.not_eq_true'] at h
      obtain ⟨h1 | h1, h2⟩ := h
      · exact .cel h1 h2
      · exact .fre h1.1 h2 h1.2
    case attr =>
      split at h
      rotate_left
      · exact (okN h).elim
      obtain ⟨h1, h2⟩ := okB h
      have h1 := okT h1
      simp only [Bool.and_eq_true, decide_eq_true_eq] at h1
      cases h1.2
      exact .attr (ih _ _ _ h2) h1.1
    case call =>
      split at h
      rotate_left
      · exact (okN h).elim
      obtain ⟨h1, h2⟩ := okB h
      obtain ⟨h2, h3⟩ := okB h2
      obtain ⟨h3, h4⟩ := okB h3
      have h1 := okT h1
      simp only [Bool.and_eq_true] at h1
      exact .call (ih _ _ _ h2) (fun o a q z => by subst z; cases h1.1) (cL_CEs (fun _ _ => ih _ _ _) h1.2 h3) (cKs_ok (fun _ _ => ih _ _ _) h4)
    case mcall =>
      split at h
      rotate_left
      · exact (okN h).elim
      obtain ⟨h1, h2⟩ := okB h
      obtain ⟨h2, h3⟩ := okB h2
      obtain ⟨h3, h4⟩ := okB h3
      have h1 := okT h1
      simp only [Bool.and_eq_true, decide_eq_true_eq] at h1
      obtain ⟨⟨⟨⟨a1, a2⟩, a3⟩, a4⟩, a5⟩ := h1
      cases a1
      exact .mcall (ih _ _ _ h2) (cL_CEs (fun _ _ => ih _ _ _) a3 h3) (cKs_ok (fun _ _ => ih _ _ _) h4) a4 a2 a5
    case scall =>
      split at h
      rotate_left
      · exact (okN h).elim
      obtain ⟨h1, h2⟩ := okB h
      obtain ⟨g2, g3⟩ := okB h2
      have h1 := okT h1
      obtain ⟨as, s, sp, e, h4, h5⟩ := cStar_ok (fun _ _ => ih _ _ _) g3
      rw [e]
      exact .scall (ih _ _ _ g2) (fun o a q z => by subst z; cases h1) h4 h5
    case bin =>
      split at h
      rotate_left
      · exact (okN h).elim
      obtain ⟨h1, h2⟩ := okB h
      obtain ⟨h2, h3⟩ := okB h2
      cases of_decide_eq_true (okT h1)
      exact .bin (ih _ _ _ h2) (ih _ _ _ h3)
    case cmp =>
      split at h
      rotate_left
      · exact (okN h).elim
      obtain ⟨h1, h2⟩ := okB h
      obtain ⟨h2, h3⟩ := okB h2
      have h1 := okT h1
      simp only [Bool.and_eq_true, decide_eq_true_eq] at h1
      cases h1.1.1
      exact .cmp (ih _ _ _ h2) (cL_CEs (fun _ _ => ih _ _ _) h1.2 h3) fun b hb => of_notSet (List.all_eq_true.mp h1.1.2 b hb)
    case bop =>
      split at h
      rotate_left
      · exact (okN h).elim
      obtain ⟨h1, h2⟩ := okB h
      have h1 := okT h1
      simp only [Bool.and_eq_true, decide_eq_true_eq] at h1
      cases h1.1
      exact .bop (cL_CEs (fun _ _ => ih _ _ _) h1.2 h2)
    case not =>
      split at h
      rotate_left
      · exact (okN h).elim
      exact .not (ih _ _ _ h)
    case neg =>
      split at h
      rotate_left
      · exact (okN h).elim
      exact .neg (ih _ _ _ h)
    case ite =>
      split at h
      rotate_left
      · exact (okN h).elim
      obtain ⟨h1, h2⟩ := okB h
      obtain ⟨h2, h3⟩ := okB h2
      exact .ite (ih _ _ _ h1) (ih _ _ _ h2) (ih _ _ _ h3)
    case lst =>
      split at h
      rotate_left
      · exact (okN h).elim
      obtain ⟨h1, h2⟩ := okB h
      exact .lst (cL_CEs (fun _ _ => ih _ _ _) (okT h1) h2)
    case tup =>
      split at h
      rotate_left
      · exact (okN h).elim
      obtain ⟨h1, h2⟩ := okB h
      exact .tup (cL_CEs (fun _ _ => ih _ _ _) (okT h1) h2)
    case dct =>
      split at h
      rotate_left
      · exact (okN h).elim
      rename_i xs ys p
      obtain ⟨h1, h2⟩ := okB h
      obtain ⟨h2, h3⟩ := okB h2
      have h1 := okT h1
      simp only [Bool.and_eq_true, decide_eq_true_eq] at h1
      obtain ⟨⟨⟨⟨a1, a2⟩, a3⟩, a4⟩, a5⟩ := h1
      have hx := filterMap_id_map a1
      have hl : (xs.filterMap id).length = xs.length := by rw [← hx]; simp
      rw [← hx]
      exact .dct (cL_CEs (fun _ _ => ih _ _ _) a2 h2) (cL_CEs (fun _ _ => ih _ _ _) a3 h3) (hl.trans a4) (by omega)
    case sub =>
      split at h
      rotate_left
      · exact (okN h).elim
      obtain ⟨h1, h2⟩ := okB h
      exact .sub (ih _ _ _ h1) (ih _ _ _ h2)
    case sli =>
      split at h
      rotate_left
      · exact (okN h).elim
      obtain ⟨h1, h2⟩ := okB h
      have co : ∀ {a : Option PySem.Expr} {b : Option ME}, Okc O (cO (chkE G n fc) a b) → CEo O fc a b := fun {a b} h => by
        cases a <;> cases b <;> first | exact (okN h).elim | exact .none | exact .some (ih _ _ _ h)
      exact .sli (co h1) (co h2)
    case comp =>
      split at h
      rotate_left
      · exact (okN h).elim
      obtain ⟨h1, h2⟩ := okB h
      obtain ⟨h2, h3⟩ := okB h2
      have h1 := okT h1
      simp only [Bool.and_eq_true, decide_eq_true_eq, Bool.not_eq_true', List.isEmpty_iff] at h1
      obtain ⟨⟨⟨⟨⟨⟨⟨a1, a2⟩, a3⟩, a4⟩, a5⟩, a6⟩, a7⟩, a8⟩ := h1
      cases a1
      exact .comp a2 a3 (fun x hx => of_decide_eq_true (List.all_eq_true.mp a4 x hx)) a5 a6 a7 (fun j x hj => by have := freeOk_ok a8 j x hj; rwa [Nat.zero_add] at this) (ih _ _ _ h2) (ihG _ _ _ _ h3)
    case lam =>
      split at h
      rotate_left
      · exact (okN h).elim
      obtain ⟨h1, h2⟩ := okB h
      have h1 := okT h1
      simp only [Bool.and_eq_true, decide_eq_true_eq, List.isEmpty_iff] at h1
      obtain ⟨⟨⟨⟨a1, a2⟩, a3⟩, a4⟩, a5⟩ := h1
      cases a1
      have := capsB_ok a5
      rw [List.reverse_reverse] at this
      exact .lam (okR h2).1 (okR h2).2 a2 a3 a4 this
theorem chkG_ok (hG : ∀ x v, G.lookup x = some v → globOf O x = some v) : ∀ (n : Nat) (fo fc : FC) (gs : List Comprehension) (ms : List MG), Okc O (chkG G n fo fc gs ms) → CGs O fo fc gs ms
  | 0, _, _, _, _, h => by unfold chkG at h; exact (okN h).elim
  | n + 1, fo, fc, gs, ms, h => by
    have ih := chkE_ok hG n
    have ihT := chkT_ok hG n
    have ihG := chkG_ok hG n
    unfold chkG at h
    split at h
    · split at h
      · obtain ⟨h1, h2⟩ := okB h
        obtain ⟨h2, h3⟩ := okB h2
        obtain ⟨h3, h4⟩ := okB h3
        have h1 := okT h1
        simp only [Bool.and_eq_true, decide_eq_true_eq] at h1
        obtain ⟨⟨a0, b⟩, d⟩ := h1
        rw [cg_eta a0]
        exact .one (ihT _ _ _ h2) (ih _ _ _ h3) (cL_CEs (fun _ _ => ih _ _ _) d h4) (of_notSet b)
      · exact (okN h).elim
    · split at h
      · obtain ⟨h1, h2⟩ := okB h
        obtain ⟨h2, h3⟩ := okB h2
        obtain ⟨h3, h4⟩ := okB h3
        obtain ⟨h4, h5⟩ := okB h4
        have h1 := okT h1
        simp only [Bool.and_eq_true, decide_eq_true_eq] at h1
        obtain ⟨⟨a0, b⟩, d⟩ := h1
        rw [cg_eta a0]
        exact .cons (ihT _ _ _ h2) (ih _ _ _ h3) (cL_CEs (fun _ _ => ih _ _ _) d h4) (of_notSet b) (ihG _ _ _ _ h5)
      · exact (okN h).elim
    · exact (okN h).elim
theorem chkT_ok (hG : ∀ x v, G.lookup x = some v → globOf O x = some v) : ∀ (n : Nat) (fc : FC) (e : PySem.Expr) (m : MT), Okc O (chkT G n fc e m) → CT O fc e m
  | 0, _, _, _, h => by unfold chkT at h; exact (okN h).elim
  | n + 1, fc, e, m, h => by
    have ih := chkE_ok hG n
    have ihT := chkT_ok hG n
    unfold chkT at h
    cases m <;> dsimp only at h
    case bad => exact .bad
    case loc =>
      split at h
      rotate_left
      · exact (okN h).elim
      exact .loc (of_decide_eq_true (p := fc.scope.names[_]? = some (_, _)) (okT h))
    case cel =>
      split at h
      rotate_left
      · exact (okN h).elim
      exact .cel (of_decide_eq_true (p := fc.scope.names[_]? = some (_, _)) (okT h))
    case attr =>
      split at h
      rotate_left
      · exact (okN h).elim
      obtain ⟨h1, h2⟩ := okB h
      cases of_decide_eq_true (okT h1)
      exact .attr (ih _ _ _ h2)
    case sub =>
      split at h
      rotate_left
      · exact (okN h).elim
      obtain ⟨h1, h2⟩ := okB h
      exact .sub (ih _ _ _ h1) (ih _ _ _ h2)
    case tup =>
      split at h
      rotate_left
      · exact (okN h).elim
      obtain ⟨h1, h2⟩ := okB h
      exact .tup (cL_CTs (fun _ _ => ihT _ _ _) (okT h1) h2)
end
end
end Mine
namespace Mine

mutual
def chkS (G : List (Str × Value)) : Nat → FC → PySem.Stmt → MS → CO
  | 0, _, _, _ => none
  | n + 1, fc, s, m => match m with
    | .bad => cT true
    | .expr a => (match s with | .Expr e _ => cB (cT (notLC e)) (chkE G n fc e a) | _ => none)
    | .asg ts a => (match s with | .Assign xs e _ => cB (cT (xs.all notStar)) (cB (cL (chkT G n fc) xs ts) (chkE G n fc e a)) | _ => none)
    | .aug t op a => (match s with | .AugAssign x op' e _ => cB (cT (decide (op = op'))) (cB (chkT G n fc x t) (chkE G n fc e a)) | _ => none)
    | .ite c a b => (match s with | .If e x y _ => cB (chkE G n fc e c) (cB (cL (chkS G n fc) x a) (cL (chkS G n fc) y b)) | _ => none)
    | .while c a => (match s with | .While e x [] _ => cB (chkE G n fc e c) (cL (chkS G n fc) x a) | _ => none)
    | .for t e a => (match s with | .For x y z [] _ => cB (cT (notSet y)) (cB (chkT G n fc x t) (cB (chkE G n fc y e) (cL (chkS G n fc) z a))) | _ => none)
    | .ret a => (match s with | .Return e _ => cO (chkE G n fc) e a | _ => none)
    | .raise a => (match s with | .Raise e none _ => cO (chkE G n fc) e a | _ => none)
    | .try a hs b f => (match s with | .Try x ys z w _ => cB (cL (chkS G n fc) x a) (cB (cL (chkH G n fc) ys hs) (cB (cL (chkS G n fc) z b) (cL (chkS G n fc) w f))) | _ => none)
    | .del t => (match s with | .Delete [x] _ => chkT G n fc x t | _ => none)
    | .pass => (match s with | .Pass _ => cT true | _ => none)
    | .brk => (match s with | .Break _ => cT true | _ => none)
    | .cont => (match s with | .Continue _ => cT true | _ => none)
    | .defn c t caps => (match s with
      | .FunctionDef name args body [] none [] sc none bind p =>
        cB (cT (decide (name = bind) && decide (c = codeKey p.line p.col) && args.defaults.isEmpty && args.kw_defaults.isEmpty && args.kwonlyargs.isEmpty && (args.posonlyargs ++ args.args).all (fun a => a.annotation.isNone) && args.vararg.isNone && args.kwarg.isNone && capsB fc sc.names caps.reverse
          && (match t with | .loc i => decide (fc.scope.names[i]? = some (name, .local)) | .cel i => decide (fc.scope.names[i]? = some (name, .cell)) | _ => false)))
          (cR p.line p.col ⟨name, fc.qual ++ name, args, .stmts body, sc⟩)
      | _ => none)
def chkH (G : List (Str × Value)) : Nat → FC → ExceptHandler → MH → CO
  | 0, _, _, _ => none
  | n + 1, fc, h, m => match h with
    | .ExceptHandler t nm a _ => (match m with
      | .mk mt mn ma => cB (cT (match nm, mn with | none, none => true | some y, some i => decide (fc.scope.names[i]? = some (y, .local)) | _, _ => false)) (cB (cO (chkE G n fc) t mt) (cL (chkS G n fc) a ma)))
end

section
variable {O : Om} {G : List (Str × Value)}
theorem cL_CSs {fc : FC} {f : PySem.Stmt → MS → CO} (hf : ∀ e m, Okc O (f e m) → CS O fc e m) : ∀ {es : List PySem.Stmt} {ms : List MS}, Okc O (cL f es ms) → CSs O fc es ms
  | [], [], _ => .nil
  | e :: es, m :: ms, h => by
    unfold cL at h
    obtain ⟨h1, h2⟩ := okB h
    exact .cons (hf _ _ h1) (cL_CSs hf h2)
  | [], _ :: _, h => (okN h).elim
  | _ :: _, [], h => (okN h).elim
theorem cL_CHs {fc : FC} {f : ExceptHandler → MH → CO} (hf : ∀ e m, Okc O (f e m) → CHs O fc [e] [m]) : ∀ {es : List ExceptHandler} {ms : List MH}, Okc O (cL f es ms) → CHs O fc es ms
  | [], [], _ => .nil
  | e :: es, m :: ms, h => by
    unfold cL at h
    obtain ⟨h1, h2⟩ := okB h
    have := hf _ _ h1
    cases this with
    | cons a b d e => exact .cons a b d (cL_CHs hf h2)
  | [], _ :: _, h => (okN h).elim
  | _ :: _, [], h => (okN h).elim
theorem cO_CEo {fc : FC} {f : PySem.Expr → ME → CO} (hf : ∀ e m, Okc O (f e m) → CE O fc e m) : ∀ {a : Option PySem.Expr} {b : Option ME}, Okc O (cO f a b) → CEo O fc a b
  | none, none, _ => .none
  | some _, some _, h => .some (hf _ _ h)
  | none, some _, h => (okN h).elim
  | some _, none, h => (okN h).elim

mutual
theorem chkS_ok (hG : ∀ x v, G.lookup x = some v → globOf O x = some v) : ∀ (n : Nat) (fc : FC) (e : PySem.Stmt) (m : MS), Okc O (chkS G n fc e m) → CS O fc e m
  | 0, _, _, _, h => by unfold chkS at h; exact (okN h).elim
  | n + 1, fc, e, m, h => by
    have ih := chkS_ok hG n
    have ihH := chkH_ok hG n
    have ihE := chkE_ok hG n
    have ihT := chkT_ok hG n
    have iX : ∀ {es : List PySem.Stmt} {ms : List MS}, Okc O (cL (chkS G n fc) es ms) → CSs O fc es ms := fun h => cL_CSs (fun _ _ => ih _ _ _) h
    unfold chkS at h
    cases m <;> dsimp only at h
    case bad => exact .bad
    case expr =>
      split at h
      rotate_left
      · exact (okN h).elim
      obtain ⟨h1, h2⟩ := okB h
      exact .expr (ihE _ _ _ h2) fun a b c d q => by subst q; have := okT h1; cases this
    case asg =>
      split at h
      rotate_left
      · exact (okN h).elim
      obtain ⟨h1, h2⟩ := okB h
      obtain ⟨h2, h3⟩ := okB h2
      exact .asg (cL_CTs (fun _ _ => ihT _ _ _) (okT h1) h2) (ihE _ _ _ h3)
    case aug =>
      split at h
      rotate_left
      · exact (okN h).elim
      obtain ⟨h1, h2⟩ := okB h
      obtain ⟨h2, h3⟩ := okB h2
      cases of_decide_eq_true (okT h1)
      exact .aug (ihT _ _ _ h2) (ihE _ _ _ h3)
    case ite =>
      split at h
      rotate_left
      · exact (okN h).elim
      obtain ⟨h1, h2⟩ := okB h
      obtain ⟨h2, h3⟩ := okB h2
      exact .ite (ihE _ _ _ h1) (iX h2) (iX h3)
    case «while» =>
      split at h
      rotate_left
      · exact (okN h).elim
      obtain ⟨h1, h2⟩ := okB h
      exact .while (ihE _ _ _ h1) (iX h2)
    case «for» =>
      split at h
      rotate_left
      · exact (okN h).elim
      obtain ⟨h1, h2⟩ := okB h
      obtain ⟨h2, h3⟩ := okB h2
      obtain ⟨h3, h4⟩ := okB h3
      exact .for (ihT _ _ _ h2) (ihE _ _ _ h3) (iX h4) (of_notSet (okT h1))
    case ret =>
      split at h
      rotate_left
      · exact (okN h).elim
      exact .ret (cO_CEo (fun _ _ => ihE _ _ _) h)
    case raise =>
      split at h
      rotate_left
      · exact (okN h).elim
      exact .raise (cO_CEo (fun _ _ => ihE _ _ _) h)
    case «try» =>
      split at h
      rotate_left
      · exact (okN h).elim
      obtain ⟨h1, h2⟩ := okB h
      obtain ⟨h2, h3⟩ := okB h2
      obtain ⟨h3, h4⟩ := okB h3
      exact .try (iX h1) (cL_CHs (fun _ _ => ihH _ _ _) h2) (iX h3) (iX h4)
    case del =>
      split at h
      rotate_left
      · exact (okN h).elim
      exact .del (ihT _ _ _ h)
    case pass =>
      split at h
      rotate_left
      · exact (okN h).elim
      exact .pass
    case brk =>
      split at h
      rotate_left
      · exact (okN h).elim
      exact .brk
    case cont =>
      split at h
      rotate_left
      · exact (okN h).elim
      exact .cont
    case defn =>
      split at h
      rotate_left
      · exact (okN h).elim
      obtain ⟨h1, h2⟩ := okB h
      have h1 := okT h1
      simp only [Bool.and_eq_true, decide_eq_true_eq, List.isEmpty_iff, Option.isNone_iff_eq_none] at h1
      obtain ⟨⟨⟨⟨⟨⟨⟨⟨⟨a1, a2⟩, a3⟩, a4⟩, a5⟩, a6⟩, a7⟩, a8⟩, a9⟩, a10⟩ := h1
      cases a1
      cases a2
      have cp := capsB_ok a9
      rw [List.reverse_reverse] at cp
      have an := fun a ha => (Option.isNone_iff_eq_none.mp (List.all_eq_true.mp a6 a ha))
      split at a10
      · exact .defn (k := .local) (okR h2).1 (okR h2).2 a3 a4 a5 an a7 a8 (of_decide_eq_true (p := fc.scope.names[_]? = some (_, _)) a10) (.inl ⟨rfl, rfl⟩) cp
      · exact .defn (k := .cell) (okR h2).1 (okR h2).2 a3 a4 a5 an a7 a8 (of_decide_eq_true (p := fc.scope.names[_]? = some (_, _)) a10) (.inr ⟨rfl, rfl⟩) cp
      · cases a10
theorem chkH_ok (hG : ∀ x v, G.lookup x = some v → globOf O x = some v) : ∀ (n : Nat) (fc : FC) (e : ExceptHandler) (m : MH), Okc O (chkH G n fc e m) → CHs O fc [e] [m]
  | 0, _, _, _, h => by unfold chkH at h; exact (okN h).elim
  | n + 1, fc, e, m, h => by
    have ih := chkS_ok hG n
    have ihE := chkE_ok hG n
    unfold chkH at h
    cases e with
    | ExceptHandler t nm a p =>
    cases m with
    | mk mt mn ma =>
    dsimp only at h
    obtain ⟨h1, h2⟩ := okB h
    obtain ⟨h2, h3⟩ := okB h2
    have h1 := okT h1
    refine .cons (cO_CEo (fun _ _ => ihE _ _ _) h2) ?_ (cL_CSs (fun _ _ => ih _ _ _) h3) .nil
    cases nm <;> cases mn <;> first | exact trivial | cases h1 | exact of_decide_eq_true (p := fc.scope.names[_]? = some (_, _)) h1
end
theorem chkX_ok (hG : ∀ x v, G.lookup x = some v → globOf O x = some v) {n : Nat} {fc : FC} {es : List PySem.Stmt} {ms : List MS} (h : Okc O (cL (chkS G n fc) es ms)) : CSs O fc es ms := cL_CSs (fun _ _ => chkS_ok hG n _ _ _) h

/-- all texts of a law, each with its compact text; the codes that they make -/
structure TextOf where
  scope : Scope
  qual : Str
  nest : Bool
  body : FuncBody
  b : List MS ⊕ ME
def chkB (G : List (Str × Value)) (t : TextOf) : CO := match t.body with
  | .stmts b => (match t.b with
    | .inl ms => cL (chkS G 60 ⟨t.scope, t.qual, t.nest⟩) b ms
    | .inr _ => none)
  | .expr e => (match t.b with
    | .inl _ => none
    | .inr m => chkE G 60 ⟨t.scope, t.qual, t.nest⟩ e m)
def chkAll (G : List (Str × Value)) : List TextOf → CO
  | [] => cT true
  | t :: r => cB (chkB G t) (chkAll G r)
theorem chkAll_mem : ∀ {l : List TextOf} {t : TextOf}, t ∈ l → Okc O (chkAll G l) → Okc O (chkB G t)
  | u :: r, t, hm, h => by
    unfold chkAll at h
    obtain ⟨h1, h2⟩ := okB h
    rcases List.mem_cons.mp hm with rfl | hm
    · exact h1
    · exact chkAll_mem hm h2
def codeOfRows (l : CR) (k : Nat) : Option CodeRow := (l.find? fun z => codeKey z.1 z.2.1 == k).map (·.2.2)
def qualOfRows (l : CR) (i j : Nat) : Option Str := (codeOfRows l (codeKey i j)).map (·.qual)
theorem okc_rows {x : CO} {l : CR} (h : x = some l) (hn : (l.map fun z => codeKey z.1 z.2.1).Nodup) (h1 : O.code = codeOfRows l) (h2 : O.qualAt = qualOfRows l) : Okc O x := by
  refine ⟨l, h, fun z hz => ?_⟩
  have key : ∀ (l : CR), (l.map fun z => codeKey z.1 z.2.1).Nodup → z ∈ l → codeOfRows l (codeKey z.1 z.2.1) = some z.2.2 := fun l => by
    induction l with
    | nil => intro _ h; cases h
    | cons y r ih =>
      intro hn hm
      rw [List.map_cons, List.nodup_cons] at hn
      unfold codeOfRows
      rw [List.find?_cons]
      rcases List.mem_cons.mp hm with rfl | hm
      · simp
      · have : codeKey y.1 y.2.1 ≠ codeKey z.1 z.2.1 := fun e => hn.1 (List.mem_map.mpr ⟨z, hm, e.symm⟩)
        rw [beq_eq_false_iff_ne.mpr this]
        exact ih hn.2 hm
  have := key l hn hz
  rw [h1, h2]
  exact ⟨this, by unfold qualOfRows; rw [this]; rfl⟩
end
end Mine
namespace Mine

abbrev Loc (N : Type) := Nat → Option (V N)
def Loc.upd {N : Type} (ρ : Loc N) (i : Nat) (v : V N) : Loc N := fun j => if j = i then some v else ρ j

/-- the exception that is handled around -/
inductive HD (N : Type) where
  | no | any
  | ex (v : V N)
def HD.good {N : Type} : HD N → Bool
  | .no => true
  | .ex (.exc _ true _ _) => true
  | _ => false
structure Cx (N : Type) where
  fc : FC
  κ : Nat → Option (V N)
  D : Nat
  hd : HD N

inductive AF (N : Type) where
  | next | brk | cont
  | ret (v : V N)

section
variable {N : Type}

def HdOk (O : Om) (hd : HD N) (T : TM N) (h : Option Value) : Prop := match hd with
  | .no => h = none
  | .any => True
  | .ex v => v.isExc = true ∧ ∃ a, h = some (.ref a) ∧ VRep O T v (.ref a) ∧ ∃ b, T b = some (.tb a)

/-- a cell as an activation sees it: a named one, or one that nobody writes any more -/
def CellOk (O : Om) (T : TM N) (v : V N) (c : Addr) : Prop := (∃ n, v = .cel n ∧ T c = some (.own n)) ∨ (∃ u o, v.isCel = false ∧ VRep O T v u ∧ T c = some (.fro o) ∧ o.data = .cell (some u))

structure EnvOk (O : Om) (c : Cx N) (A : Around) (env : Env) (T : TM N) (Φ : Addr → Option Obj) : Prop where
  scope : env.scope = c.fc.scope
  kind : c.fc.scope.kind = .function
  nodup : (c.fc.scope.names.map (·.1)).Nodup
  more : c.fc.scope.isCoroutine = false
  qual : env.qual = c.fc.qual
  globals : env.globals = mainGlobals
  builtins : env.builtins = builtinsNs
  cells : ∀ i v, c.κ i = some v → ∃ x k a, c.fc.at i x k ∧ (k = .cell ∨ k = .free) ∧ env.cells.lookup x = some a ∧ CellOk O T v a
  code : c.fc.nest = true → CodeN T env.code
  frames : ∃ e0 l, A.frames = some (e0 :: l) ∧ e0.frame = env.frame ∧ ∀ e ∈ e0 :: l, e.scope.kind ≠ .module ∧ ∃ L, e.frame = some L ∧ (L = env.locals ∨ ∃ o, Φ L = some o ∧ FrLike o)
  hdok : HdOk O c.hd T A.handled
  depth : A.depth + c.D < recursionLimit
  units : A.units + 40 * c.D < cLine

structure FrOk (O : Om) (fc : FC) (T : TM N) (Φ : Addr → Option Obj) (ρ : Loc N) (h : Heap) (L : Addr) : Prop where
  fresh : T L = none
  off : Φ L = none
  ns : ∃ m, h.Ns L m ∧ ∀ i v, ρ i = some v → ∃ x val, fc.at i x .local ∧ m x = some val ∧ VRep O T v val

structure At (O : Om) (c : Cx N) (A : Around) (env : Env) (T : TM N) (Φ : Addr → Option Obj) (ρ : Loc N) (σ : Sto N) (s : Shared) : Prop where
  rep : Rep O T Φ σ s.heap
  fr : FrOk O c.fc T Φ ρ s.heap env.locals
  env : EnvOk O c A env T Φ

/-- what is static holds of the base -/
structure Om.Ok (O : Om) : Prop where
  K : O.K.In O.B
  top : Top O.p O.loose O.mean O.mg O.mb O.B
  sys : ∃ o, O.B.get? sysModules = some o

def Post (O : Om) (c : Cx N) (A : Around) (env : Env) (Φ : Addr → Option Obj) (ρ : Loc N) (T₀ : TM N) (s₀ : Shared) (Q : V N → Sto N → Prop) : Value → Shared → Prop := fun val s =>
  ∃ T σ v, T₀.le T ∧ At O c A env T Φ ρ σ s ∧ s.gens = s₀.gens ∧ s.os = s₀.os ∧ VRep O T v val ∧ Q v σ
def PostU (O : Om) (c : Cx N) (A : Around) (env : Env) (Φ : Addr → Option Obj) (ρ : Loc N) (T₀ : TM N) (s₀ : Shared) (Q : Sto N → Prop) : Unit → Shared → Prop := fun _ s =>
  ∃ T σ, T₀.le T ∧ At O c A env T Φ ρ σ s ∧ s.gens = s₀.gens ∧ s.os = s₀.os ∧ Q σ
def PostB (O : Om) (c : Cx N) (A : Around) (env : Env) (Φ : Addr → Option Obj) (ρ : Loc N) (T₀ : TM N) (s₀ : Shared) (Q : Bool → Sto N → Prop) : Bool → Shared → Prop := fun b s =>
  ∃ T σ, T₀.le T ∧ At O c A env T Φ ρ σ s ∧ s.gens = s₀.gens ∧ s.os = s₀.os ∧ Q b σ
def PostL (O : Om) (c : Cx N) (A : Around) (env : Env) (Φ : Addr → Option Obj) (ρ : Loc N) (T₀ : TM N) (s₀ : Shared) (Q : List (V N) → Sto N → Prop) : List Value → Shared → Prop := fun vals s =>
  ∃ T σ vs, T₀.le T ∧ At O c A env T Φ ρ σ s ∧ s.gens = s₀.gens ∧ s.os = s₀.os ∧ VReps O T vs vals ∧ Q vs σ
def AF.rep (O : Om) (T : TM N) : AF N → Flow → Prop
  | .next, f => f = .next
  | .brk, f => f = .brk
  | .cont, f => f = .cont
  | .ret v, f => ∃ x, f = .ret x ∧ VRep O T v x
def PostF (O : Om) (c : Cx N) (A : Around) (env : Env) (Φ : Addr → Option Obj) (T₀ : TM N) (s₀ : Shared) (Q : AF N → Loc N → Sto N → Prop) : Flow → Shared → Prop := fun f s =>
  ∃ T ρ σ af, T₀.le T ∧ At O c A env T Φ ρ σ s ∧ s.gens = s₀.gens ∧ s.os = s₀.os ∧ AF.rep O T af f ∧ Q af ρ σ
def PostY (O : Om) (c : Cx N) (A : Around) (env : Env) (Φ : Addr → Option Obj) (ρ : Loc N) (T₀ : TM N) (s₀ : Shared) (X : V N → Sto N → Prop) : Value → Shared → Prop := fun val s =>
  ∃ T σ v, T₀.le T ∧ At O c A env T Φ ρ σ s ∧ s.gens = s₀.gens ∧ s.os = s₀.os ∧ VRep O T v val ∧ v.isExc = true ∧ X v σ
def PostX (O : Om) (c : Cx N) (A : Around) (env : Env) (Φ : Addr → Option Obj) (T₀ : TM N) (s₀ : Shared) (X : V N → Loc N → Sto N → Prop) : Value → Shared → Prop := fun val s =>
  ∃ T ρ σ v, T₀.le T ∧ At O c A env T Φ ρ σ s ∧ s.gens = s₀.gens ∧ s.os = s₀.os ∧ VRep O T v val ∧ v.isExc = true ∧ X v ρ σ

variable (O : Om) (c : Cx N)

def AE (m : ME) (ρ : Loc N) (σ : Sto N) (Q X : V N → Sto N → Prop) : Prop := ∀ A env T Φ s e, CE O c.fc e m → At O c A env T Φ ρ σ s →
  wpAny (model O.prog O.w) A (eval e env) (Post O c A env Φ ρ T s Q) (PostY O c A env Φ ρ T s X) s
/-- a test -/
def AT (m : ME) (ρ : Loc N) (σ : Sto N) (Q : Bool → Sto N → Prop) (X : V N → Sto N → Prop) : Prop := ∀ A env T Φ s e, CE O c.fc e m → At O c A env T Φ ρ σ s →
  wpAny (model O.prog O.w) A (isTrue e env (eval e env)) (PostB O c A env Φ ρ T s Q) (PostY O c A env Φ ρ T s X) s
def AEs (ms : List ME) (ρ : Loc N) (σ : Sto N) (Q : List (V N) → Sto N → Prop) (X : V N → Sto N → Prop) : Prop := ∀ A env T Φ s es, CEs O c.fc es ms → At O c A env T Φ ρ σ s →
  wpAny (model O.prog O.w) A (evalAll (evalEach es env)) (PostL O c A env Φ ρ T s Q) (PostY O c A env Φ ρ T s X) s
/-- an operation on values in hand -/
def P1 (f : Value → Sem Value) (x : V N) (ρ : Loc N) (σ : Sto N) (Q X : V N → Sto N → Prop) : Prop := ∀ A env T Φ s a, At O c A env T Φ ρ σ s → VRep O T x a →
  wpAny (model O.prog O.w) A (f a) (Post O c A env Φ ρ T s Q) (PostY O c A env Φ ρ T s X) s
def P1B (f : Value → Sem Bool) (x : V N) (ρ : Loc N) (σ : Sto N) (Q : Bool → Sto N → Prop) (X : V N → Sto N → Prop) : Prop := ∀ A env T Φ s a, At O c A env T Φ ρ σ s → VRep O T x a →
  wpAny (model O.prog O.w) A (f a) (PostB O c A env Φ ρ T s Q) (PostY O c A env Φ ρ T s X) s
def P2 (f : Value → Value → Sem Value) (x y : V N) (ρ : Loc N) (σ : Sto N) (Q X : V N → Sto N → Prop) : Prop := ∀ A env T Φ s a b, At O c A env T Φ ρ σ s → VRep O T x a → VRep O T y b →
  wpAny (model O.prog O.w) A (f a b) (Post O c A env Φ ρ T s Q) (PostY O c A env Φ ρ T s X) s
def P2U (f : Value → Value → Sem Unit) (x y : V N) (ρ : Loc N) (σ : Sto N) (Q : Sto N → Prop) (X : V N → Sto N → Prop) : Prop := ∀ A env T Φ s a b, At O c A env T Φ ρ σ s → VRep O T x a → VRep O T y b →
  wpAny (model O.prog O.w) A (f a b) (PostU O c A env Φ ρ T s Q) (PostY O c A env Φ ρ T s X) s
def P3U (f : Value → Value → Value → Sem Unit) (x y z : V N) (ρ : Loc N) (σ : Sto N) (Q : Sto N → Prop) (X : V N → Sto N → Prop) : Prop := ∀ A env T Φ s a b d, At O c A env T Φ ρ σ s → VRep O T x a → VRep O T y b → VRep O T z d →
  wpAny (model O.prog O.w) A (f a b d) (PostU O c A env Φ ρ T s Q) (PostY O c A env Φ ρ T s X) s
def PL (f : List Value → Sem Value) (xs : List (V N)) (ρ : Loc N) (σ : Sto N) (Q X : V N → Sto N → Prop) : Prop := ∀ A env T Φ s as, At O c A env T Φ ρ σ s → VReps O T xs as →
  wpAny (model O.prog O.w) A (f as) (Post O c A env Φ ρ T s Q) (PostY O c A env Φ ρ T s X) s

def AS (m : MS) (ρ : Loc N) (σ : Sto N) (Q : AF N → Loc N → Sto N → Prop) (X : V N → Loc N → Sto N → Prop) : Prop := ∀ A env T Φ s st, CS O c.fc st m → At O c A env T Φ ρ σ s →
  wpAny (model O.prog O.w) A (exec st env) (PostF O c A env Φ T s Q) (PostX O c A env Φ T s X) s
def AX (ms : List MS) (ρ : Loc N) (σ : Sto N) (Q : AF N → Loc N → Sto N → Prop) (X : V N → Loc N → Sto N → Prop) : Prop := ∀ A env T Φ s sts, CSs O c.fc sts ms → At O c A env T Φ ρ σ s →
  wpAny (model O.prog O.w) A (execs sts env) (PostF O c A env Φ T s Q) (PostX O c A env Φ T s X) s
/-- storing a value -/
def ATg (t : MT) (v : V N) (ρ : Loc N) (σ : Sto N) (Q : Loc N → Sto N → Prop) (X : V N → Loc N → Sto N → Prop) : Prop := ∀ A env T Φ s e a, CT O c.fc e t → At O c A env T Φ ρ σ s → VRep O T v a →
  wpAny (model O.prog O.w) A (assign e env a) (fun _ => PostF O c A env Φ T s (fun _ => Q) Flow.next) (PostX O c A env Φ T s X) s
end

section
variable {N : Type} {O : Om} {c : Cx N} {A : Around} {env : Env} {T T₀ T₁ : TM N} {Φ : Addr → Option Obj} {ρ : Loc N} {σ : Sto N} {s s₀ s₁ : Shared}

theorem Post.up {Q Q' : V N → Sto N → Prop} {v : Value} {s' : Shared} (h : Post O c A env Φ ρ T₁ s₁ Q v s') (ht : T₀.le T₁) (hg : s₁.gens = s₀.gens) (ho : s₁.os = s₀.os) (hq : ∀ v σ, Q v σ → Q' v σ) : Post O c A env Φ ρ T₀ s₀ Q' v s' :=
  let ⟨T, σ, v, a, b, d, e, f, g⟩ := h; ⟨T, σ, v, TM.le_trans ht a, b, d.trans hg, e.trans ho, f, hq _ _ g⟩
theorem PostF.up {Q Q' : AF N → Loc N → Sto N → Prop} {v : Flow} {s' : Shared} (h : PostF O c A env Φ T₁ s₁ Q v s') (ht : T₀.le T₁) (hg : s₁.gens = s₀.gens) (ho : s₁.os = s₀.os) (hq : ∀ v ρ σ, Q v ρ σ → Q' v ρ σ) : PostF O c A env Φ T₀ s₀ Q' v s' :=
  let ⟨T, ρ, σ, v, a, b, d, e, f, g⟩ := h; ⟨T, ρ, σ, v, TM.le_trans ht a, b, d.trans hg, e.trans ho, f, hq _ _ _ g⟩
theorem PostX.up {Q Q' : V N → Loc N → Sto N → Prop} {v : Value} {s' : Shared} (h : PostX O c A env Φ T₁ s₁ Q v s') (ht : T₀.le T₁) (hg : s₁.gens = s₀.gens) (ho : s₁.os = s₀.os) (hq : ∀ v ρ σ, Q v ρ σ → Q' v ρ σ) : PostX O c A env Φ T₀ s₀ Q' v s' :=
  let ⟨T, ρ, σ, v, a, b, d, e, f, y, g⟩ := h; ⟨T, ρ, σ, v, TM.le_trans ht a, b, d.trans hg, e.trans ho, f, y, hq _ _ _ g⟩
theorem PostY.toX {X : V N → Loc N → Sto N → Prop} {v : Value} {s' : Shared} (h : PostY O c A env Φ ρ T₀ s₀ (fun v σ => X v ρ σ) v s') : PostX O c A env Φ T₀ s₀ X v s' :=
  let ⟨T, σ, v, a, b, d, e, f, y, g⟩ := h; ⟨T, ρ, σ, v, a, b, d, e, f, y, g⟩
theorem Post.here {Q : V N → Sto N → Prop} {v : V N} {x : Value} (h : At O c A env T Φ ρ σ s) (hv : VRep O T v x) (hq : Q v σ) : Post O c A env Φ ρ T s Q x s := ⟨T, σ, v, TM.le_refl _, h, rfl, rfl, hv, hq⟩

theorem HdOk.mono {hd : HD N} {h : Option Value} (x : HdOk O hd T h) (le : T.le T₁) : HdOk O hd T₁ h := by
  cases hd with
  | no => exact x
  | any => exact x
  | ex v => obtain ⟨a, e, b, d, z, w⟩ := x; exact ⟨a, e, b, d.mono le, z, le _ _ w⟩
theorem CellOk.mono {v : V N} {a : Addr} (x : CellOk O T v a) (le : T.le T₁) : CellOk O T₁ v a := x.imp (fun ⟨n, e, f⟩ => ⟨n, e, le _ _ f⟩) fun ⟨u, o, z, e, f, g⟩ => ⟨u, o, z, e.mono le, le _ _ f, g⟩
theorem EnvOk.mono (x : EnvOk O c A env T Φ) (le : T.le T₁) : EnvOk O c A env T₁ Φ where
  scope := x.scope
  kind := x.kind
  nodup := x.nodup
  more := x.more
  qual := x.qual
  globals := x.globals
  builtins := x.builtins
  cells := fun i v h => let ⟨y, k, a, p, q, r, t⟩ := x.cells i v h; ⟨y, k, a, p, q, r, t.mono le⟩
  code := fun h => (x.code h).mono le
  frames := x.frames
  hdok := x.hdok.mono le
  depth := x.depth
  units := x.units

theorem nodup_lookup {α : Type} : ∀ {l : List (Str × α)} {i : Nat} {x : Str} {k : α}, (l.map (·.1)).Nodup → l[i]? = some (x, k) → l.lookup x = some k
  | (y, j) :: r, 0, x, k, _, h => by simp at h; obtain ⟨rfl, rfl⟩ := h; simp [List.lookup]
  | (y, j) :: r, i + 1, x, k, hn, h => by
    simp at h
    rw [List.map_cons, List.nodup_cons] at hn
    have hm : x ∈ r.map (·.1) := List.mem_map.mpr ⟨(x, k), List.mem_of_getElem? h, rfl⟩
    rw [List.lookup_cons]
    have : (x == y) = false := by
      cases q : x == y with
      | false => rfl
      | true => rw [beq_iff_eq.mp q] at hm; exact absurd hm hn.1
    rw [this]
    exact nodup_lookup hn.2 h
theorem nodup_at {l : List (Str × NameKind)} (hn : (l.map (·.1)).Nodup) {i j : Nat} {x : Str} {k k' : NameKind} (h : l[i]? = some (x, k)) (h' : l[j]? = some (x, k')) : i = j := by
  have hi : (l.map (·.1))[i]? = some x := by rw [List.getElem?_map, h]; rfl
  have hj : (l.map (·.1))[j]? = some x := by rw [List.getElem?_map, h']; rfl
  obtain ⟨li, ei⟩ := List.getElem?_eq_some_iff.mp hi
  obtain ⟨lj, ej⟩ := List.getElem?_eq_some_iff.mp hj
  have P := List.pairwise_iff_getElem.mp hn
  rcases Nat.lt_trichotomy i j with q | q | q
  · exact absurd (ei.trans ej.symm) (P i j li lj q)
  · exact q
  · exact absurd (ej.trans ei.symm) (P j i lj li q)

theorem EnvOk.kindOf (x : EnvOk O c A env T Φ) {i : Nat} {y : Str} {k : NameKind} (h : c.fc.at i y k) : env.kindOf y = some k := by
  unfold Env.kindOf; rw [x.scope]; exact nodup_lookup x.nodup h

/-- the tracked part is as it was -/
theorem Rep.same {h h' : Heap} (R : Rep O T Φ σ h) (k : ∀ a t, T a = some t → h'.get? a = h.get? a) (kf : ∀ a o, Φ a = some o → h'.get? a = h.get? a) : Rep O T Φ σ h' where
  trk := fun a t e => let ⟨ob, p, q⟩ := R.trk a t e; ⟨ob, (k a t e).trans p, q⟩
  frs := fun a o e => let ⟨p, q, sl, r⟩ := R.frs a o e; ⟨p, fun z => (kf a o e).trans (q z), sl, (kf a o e).trans r⟩
  own := R.own
  inj := R.inj
  pin := R.pin
  base := R.base
  tabs := R.tabs
  noted := fun b a e => (R.noted b a e).keep (TM.le_refl _) fun t q => k a t q
theorem Rep.live {h : Heap} (R : Rep O T Φ σ h) {a : Addr} {t : Trk N} (e : T a = some t) : ∃ ob, h.get? a = some ob := let ⟨ob, p, _⟩ := R.trk a t e; ⟨ob, p⟩
theorem Rep.lt {h : Heap} (R : Rep O T Φ σ h) {a : Addr} {t : Trk N} (e : T a = some t) : a < h.objs.size := let ⟨_, p⟩ := R.live e; Heap.lt_size p
theorem Rep.lt_fr {h : Heap} (R : Rep O T Φ σ h) {a : Addr} {o : Obj} (e : Φ a = some o) : a < h.objs.size := let ⟨_, _, _, p⟩ := R.frs a o e; Heap.lt_size p
theorem Rep.keeps {h h' : Heap} (R : Rep O T Φ σ h) (k : ∀ a o, h.get? a = some o → h'.get? a = some o) : Rep O T Φ σ h' :=
  R.same (fun _ _ e => let ⟨_, p⟩ := R.live e; (k _ _ p).trans p.symm) (fun a o e => let ⟨_, _, _, p⟩ := R.frs a o e; (k _ _ p).trans p.symm)
theorem Rep.sameBut {h h' : Heap} {b : Addr} (R : Rep O T Φ σ h) (hs : Heap.SameBut b h h') (hb : T b = none) (hf : Φ b = none) : Rep O T Φ σ h' :=
  R.same (fun a t e => hs.2 a (fun q => by rw [q, hb] at e; cases e)) (fun a o e => hs.2 a (fun q => by rw [q, hf] at e; cases e))
theorem FrOk.keeps {h h' : Heap} {L : Addr} (F : FrOk O c.fc T Φ ρ h L) (k : ∀ a o, h.get? a = some o → h'.get? a = some o) : FrOk O c.fc T Φ ρ h' L := ⟨F.fresh, F.off, let ⟨m, p, q⟩ := F.ns; ⟨m, p.keeps k, q⟩⟩

theorem At.keeps (h : At O c A env T Φ ρ σ s) {s' : Shared} (k : ∀ a o, s.heap.get? a = some o → s'.heap.get? a = some o) : At O c A env T Φ ρ σ s' := ⟨h.rep.keeps k, h.fr.keeps k, h.env⟩
theorem At.toks (h : At O c A env T Φ ρ σ s) (t : Nat) : At O c A env T Φ ρ σ { s with toks := t } := ⟨h.rep, h.fr, h.env⟩
theorem At.base (h : At O c A env T Φ ρ σ s) {b : Addr} {o : Obj} (e : O.B.get? b = some o) : s.heap.get? b = some o := let ⟨_, p, q⟩ := h.rep.trk b _ (h.rep.base b o e); q ▸ p
theorem At.fro (h : At O c A env T Φ ρ σ s) {b : Addr} {o : Obj} (e : T b = some (.fro o)) : s.heap.get? b = some o := let ⟨_, p, q⟩ := h.rep.trk b _ e; q ▸ p
theorem At.K (h : At O c A env T Φ ρ σ s) (ok : O.Ok) : O.K.In s.heap := fun a o e => h.base (ok.K a o e)
theorem At.top (h : At O c A env T Φ ρ σ s) (ok : O.Ok) : Top O.p O.loose O.mean O.mg O.mb s.heap := ok.top.keeps fun _ _ e => h.base e
theorem At.ne (h : At O c A env T Φ ρ σ s) {b : Addr} {t : Trk N} (e : T b = some t) : b ≠ env.locals := fun q => by rw [q, h.fr.fresh] at e; cases e

/-! new objects -/
noncomputable def TM.ins (T : TM N) (a : Addr) (t : Trk N) : TM N := fun b => open Classical in if b = a then some t else T b
theorem TM.ins_self {a : Addr} {t : Trk N} : T.ins a t a = some t := by simp [TM.ins]
theorem TM.ins_ne {a b : Addr} {t : Trk N} (h : b ≠ a) : T.ins a t b = T b := by simp [TM.ins, h]
theorem TM.le_ins {a : Addr} {t : Trk N} (h : T a = none) : T.le (T.ins a t) := fun b u e => by
  rw [TM.ins_ne (fun q => by rw [q, h] at e; cases e)]; exact e
theorem Rep.size_none {h : Heap} (R : Rep O T Φ σ h) : T h.objs.size = none := by
  cases q : T h.objs.size with
  | none => rfl
  | some t => exact absurd (R.lt q) (Nat.lt_irrefl _)
theorem Rep.size_none_fr {h : Heap} (R : Rep O T Φ σ h) : Φ h.objs.size = none := by
  cases q : Φ h.objs.size with
  | none => rfl
  | some t => exact absurd (R.lt_fr q) (Nat.lt_irrefl _)
theorem Rep.above_none {h : Heap} (R : Rep O T Φ σ h) {a : Addr} (ha : h.objs.size ≤ a) : T a = none := by
  cases q : T a with
  | none => rfl
  | some t => exact absurd (Nat.lt_of_lt_of_le (R.lt q) ha) (Nat.lt_irrefl _)
theorem Rep.above_none_fr {h : Heap} (R : Rep O T Φ σ h) {a : Addr} (ha : h.objs.size ≤ a) : Φ a = none := by
  cases q : Φ a with
  | none => rfl
  | some t => exact absurd (Nat.lt_of_lt_of_le (R.lt_fr q) ha) (Nat.lt_irrefl _)

theorem OwnRep.mono {n : N} {o : AO N} {ob : Obj} (le : T.le T₁) (h : OwnRep O T n o ob) : OwnRep O T₁ n o ob := by
  cases o with
  | inst C ns vs => obtain ⟨d, a, b⟩ := h; exact ⟨d, a, le _ _ b⟩
  | list vs => obtain ⟨xs, k, a, b⟩ := h; exact ⟨xs, k, a, VReps.mono le _ b⟩
  | dict ks vs => obtain ⟨es, k, a, b, d, f⟩ := h; exact ⟨es, k, a, VReps.mono le _ b, VReps.mono le _ d, f⟩
  | cell v =>
    cases v with
    | none => exact h
    | some v => obtain ⟨x, a, b⟩ := h; exact ⟨x, a, VRep.mono le _ b⟩
  | busy o => exact h
theorem Cont.mono {t : Trk N} {ob : Obj} (le : T.le T₁) (h : Cont O T σ t ob) : Cont O T₁ σ t ob := by
  cases t with
  | fro o => exact h
  | own n => obtain ⟨o, a, b⟩ := h; exact ⟨o, a, b.mono le⟩
  | part n => obtain ⟨C, ns, vs, es, k, a, b, d, e⟩ := h; exact ⟨C, ns, vs, es, k, a, b, d, VReps.mono le _ e⟩
  | exc x c cf d => obtain ⟨vs, a, b, e, f⟩ := h; exact ⟨vs, a, b, e.imp id fun ⟨x, p, q⟩ => ⟨x, p, le _ _ q⟩, f⟩
  | tb => exact h
  | tab => obtain ⟨ps, a, b, d⟩ := h; exact ⟨ps, a, b, fun pos cv e => let ⟨q, p, r, r'⟩ := d pos cv e; ⟨q, p, r.mono le, r'.mono le⟩⟩

/-- one more tracked object, that has no name of its own -/
theorem Rep.ins {h h' : Heap} {a : Addr} {t : Trk N} {ob : Obj} (R : Rep O T Φ σ h) (hk : ∀ b o, h.get? b = some o → h'.get? b = some o) (ha : T a = none) (hf : Φ a = none) (ho : h'.get? a = some ob)
    (hc : Cont O (T.ins a t) σ t ob) (hn : ∀ n, t ≠ .own n ∧ t ≠ .part n) (hb : ∀ x, t ≠ .tb x := by intro _ h; cases h) : Rep O (T.ins a t) Φ σ h' := by
  have R' := R.keeps hk
  have le : T.le (T.ins a t) := TM.le_ins ha
  refine ⟨fun b u e => ?_, fun b o e => ?_, fun n o e => let ⟨b, q⟩ := R'.own n o e; ⟨b, le _ _ q⟩, fun n x y e e' => ?_, fun n x y e e' => ?_, fun b o e => le _ _ (R'.base b o e), fun b hb => le _ _ (R'.tabs b hb), fun b x e => (R'.noted b x ?_).keep le fun _ _ => rfl⟩
  · by_cases q : b = a
    · subst q
      rw [TM.ins_self] at e; cases e
      exact ⟨ob, ho, hc⟩
    · rw [TM.ins_ne q] at e
      obtain ⟨x, p, r⟩ := R'.trk b u e
      exact ⟨x, p, r.mono le⟩
  · obtain ⟨p, q, r⟩ := R'.frs b o e
    refine ⟨?_, q, r⟩
    rw [TM.ins_ne (fun z => by rw [z, hf] at e; cases e)]; exact p
  · have old : ∀ z, T.ins a t z = some (.own n) → T z = some (.own n) := fun z q => by
      by_cases w : z = a
      · rw [w, TM.ins_self] at q; cases q; exact absurd rfl (hn n).1
      · rwa [TM.ins_ne w] at q
    exact R.inj n x y (old x e) (old y e')
  · have old : ∀ z, T.ins a t z = some (.part n) → T z = some (.part n) := fun z q => by
      by_cases w : z = a
      · rw [w, TM.ins_self] at q; cases q; exact absurd rfl (hn n).2
      · rwa [TM.ins_ne w] at q
    exact R.pin n x y (old x e) (old y e')
  · by_cases w : b = a
    · rw [w, TM.ins_self] at e; cases e; exact absurd rfl (hb x)
    · rwa [TM.ins_ne w] at e

theorem FrOk.mono {fc : FC} {h : Heap} {L : Addr} (F : FrOk O fc T Φ ρ h L) (le : T.le T₁) (hL : T₁ L = none) : FrOk O fc T₁ Φ ρ h L :=
  ⟨hL, F.off, let ⟨m, p, q⟩ := F.ns; ⟨m, p, fun i v e => let ⟨x, val, a, b, d⟩ := q i v e; ⟨x, val, a, b, VRep.mono le _ d⟩⟩⟩
theorem FrOk.lt {fc : FC} {h : Heap} {L : Addr} (F : FrOk O fc T Φ ρ h L) : L < h.objs.size := let ⟨_, p, _⟩ := F.ns; p.lt

theorem At.ins (h : At O c A env T Φ ρ σ s) {s' : Shared} {a : Addr} {t : Trk N} {ob : Obj} (hk : ∀ b o, s.heap.get? b = some o → s'.heap.get? b = some o) (ha : s.heap.objs.size ≤ a) (ho : s'.heap.get? a = some ob)
    (hc : Cont O (T.ins a t) σ t ob) (hn : ∀ n, t ≠ .own n ∧ t ≠ .part n) (hb : ∀ x, t ≠ .tb x := by intro _ h; cases h) : At O c A env (T.ins a t) Φ ρ σ s' := by
  have hT := h.rep.above_none ha
  refine ⟨h.rep.ins hk hT (h.rep.above_none_fr ha) ho hc hn hb, (h.fr.keeps hk).mono (TM.le_ins hT) ?_, h.env.mono (TM.le_ins hT)⟩
  rw [TM.ins_ne (Nat.ne_of_lt (Nat.lt_of_lt_of_le h.fr.lt ha))]; exact h.fr.fresh
theorem At.fro_new (h : At O c A env T Φ ρ σ s) {s' : Shared} {a : Addr} {o : Obj} (hk : ∀ b o, s.heap.get? b = some o → s'.heap.get? b = some o) (ha : s.heap.objs.size ≤ a) (ho : s'.heap.get? a = some o) :
    At O c A env (T.ins a (.fro o)) Φ ρ σ s' := h.ins hk ha ho rfl fun _ => ⟨nofun, nofun⟩
end
end Mine
namespace Mine
section
variable {N : Type} {O : Om} {c : Cx N} {A : Around} {env : Env} {T T₀ T₁ : TM N} {Φ : Addr → Option Obj} {ρ : Loc N} {σ : Sto N} {s s₀ s₁ : Shared}

theorem Sto.set_self {n : N} {o : AO N} : σ.set n o n = some o := by simp [Sto.set]
theorem Sto.set_ne {n m : N} {o : AO N} (h : m ≠ n) : σ.set n o m = σ m := by simp [Sto.set, h]

def AO.isInst : AO N → Bool
  | .inst .. => true
  | _ => false

/-- a named object that is no instance is written over -/
theorem Rep.upd {h h' : Heap} {n : N} {a : Addr} {o o' : AO N} {ob : Obj} (R : Rep O T Φ σ h) (ha : T a = some (.own n)) (hσ : σ n = some o) (hi : o.isInst = false) (hi' : o'.isInst = false)
    (hs : Heap.SameBut a h h') (ho : h'.get? a = some ob) (hr : OwnRep O T n o' ob) : Rep O T Φ (σ.set n o') h' := by
  refine ⟨fun b t e => ?_, fun b o₁ e => ?_, fun m o₁ e => ?_, R.inj, R.pin, R.base, R.tabs, fun b x e => (R.noted b x e).keep (TM.le_refl _) fun t q => hs.2 x fun z => ?_⟩
  · by_cases q : b = a
    · subst q
      rw [ha] at e; cases e
      exact ⟨ob, ho, o', Sto.set_self, hr⟩
    · obtain ⟨x, p, r⟩ := R.trk b t e
      refine ⟨x, (hs.2 b q).trans p, ?_⟩
      cases t with
      | own m =>
        obtain ⟨y, y1, y2⟩ := r
        have : m ≠ n := fun z => q (R.inj n b a (z ▸ e) ha)
        exact ⟨y, (Sto.set_ne this).trans y1, y2⟩
      | part m =>
        obtain ⟨C, ns, vs, es, k, y1, y2⟩ := r
        have : m ≠ n := fun z => by rw [z, hσ] at y1; cases y1; cases hi
        exact ⟨C, ns, vs, es, k, (Sto.set_ne this).trans y1, y2⟩
      | fro | exc | tb | tab => exact r
  · obtain ⟨p, q, sl, r⟩ := R.frs b o₁ e
    have hz := hs.2 b fun z => by rw [z, ha] at p; cases p
    exact ⟨p, fun z => hz.trans (q z), sl, hz.trans r⟩
  · by_cases q : m = n
    · exact ⟨a, q ▸ ha⟩
    · rw [Sto.set_ne q] at e; exact R.own m o₁ e
  · obtain ⟨_, _, _, _, _, _, w, _⟩ := R.noted b x e
    rw [z, ha] at w; cases w

/-- an instance's attributes are written over -/
theorem Rep.updI {h h' : Heap} {n : N} {d C : Addr} {ns ns' : List Str} {vs vs' : List (V N)} {es : List DictEntry} {k : Nat} (R : Rep O T Φ σ h) (hd : T d = some (.part n)) (hσ : σ n = some (.inst C ns vs))
    (hs : Heap.SameBut d h h') (ho : h'.get? d = some (dictOf es k)) (hk : KeysAre O.w.params ns' es) (hr : VReps O T vs' (es.map (·.val))) : Rep O T Φ (σ.set n (.inst C ns' vs')) h' := by
  refine ⟨fun b t e => ?_, fun b o₁ e => ?_, fun m o₁ e => ?_, R.inj, R.pin, R.base, R.tabs, fun b x e => (R.noted b x e).keep (TM.le_refl _) fun t q => hs.2 x fun z => ?_⟩
  · by_cases q : b = d
    · subst q
      rw [hd] at e; cases e
      exact ⟨_, ho, C, ns', vs', es, k, Sto.set_self, rfl, hk, hr⟩
    · obtain ⟨x, p, r⟩ := R.trk b t e
      refine ⟨x, (hs.2 b q).trans p, ?_⟩
      cases t with
      | own m =>
        obtain ⟨y, y1, y2⟩ := r
        by_cases z : m = n
        · subst z
          rw [hσ] at y1; cases y1
          exact ⟨_, Sto.set_self, y2⟩
        · exact ⟨y, (Sto.set_ne z).trans y1, y2⟩
      | part m =>
        obtain ⟨C, ns, vs, es, k, y1, y2⟩ := r
        have : m ≠ n := fun z => q (R.pin n b d (z ▸ e) hd)
        exact ⟨C, ns, vs, es, k, (Sto.set_ne this).trans y1, y2⟩
      | fro | exc | tb | tab => exact r
  · obtain ⟨p, q, sl, r⟩ := R.frs b o₁ e
    have hz := hs.2 b fun z => by rw [z, hd] at p; cases p
    exact ⟨p, fun z => hz.trans (q z), sl, hz.trans r⟩
  · by_cases q : m = n
    · subst q
      exact R.own m _ hσ
    · rw [Sto.set_ne q] at e; exact R.own m o₁ e
  · obtain ⟨_, _, _, _, _, _, w, _⟩ := R.noted b x e
    rw [z, hd] at w; cases w

theorem FrOk.sameBut {fc : FC} {h h' : Heap} {L a : Addr} (F : FrOk O fc T Φ ρ h L) (hs : Heap.SameBut a h h') (ha : L ≠ a) : FrOk O fc T Φ ρ h' L := ⟨F.fresh, F.off, let ⟨m, p, q⟩ := F.ns; ⟨m, p.sameBut hs ha, q⟩⟩

theorem At.upd {n : N} {a : Addr} {o o' : AO N} {ob : Obj} {s' : Shared} (h : At O c A env T Φ ρ σ s) (ha : T a = some (.own n)) (hσ : σ n = some o) (hi : o.isInst = false) (hi' : o'.isInst = false)
    (hs : Heap.SameBut a s.heap s'.heap) (ho : s'.heap.get? a = some ob) (hr : OwnRep O T n o' ob) : At O c A env T Φ ρ (σ.set n o') s' :=
  ⟨h.rep.upd ha hσ hi hi' hs ho hr, h.fr.sameBut hs (Ne.symm (h.ne ha)), h.env⟩
theorem At.updI {n : N} {d C : Addr} {ns ns' : List Str} {vs vs' : List (V N)} {es : List DictEntry} {k : Nat} {s' : Shared} (h : At O c A env T Φ ρ σ s) (hd : T d = some (.part n)) (hσ : σ n = some (.inst C ns vs))
    (hs : Heap.SameBut d s.heap s'.heap) (ho : s'.heap.get? d = some (dictOf es k)) (hk : KeysAre O.w.params ns' es) (hr : VReps O T vs' (es.map (·.val))) : At O c A env T Φ ρ (σ.set n (.inst C ns' vs')) s' :=
  ⟨h.rep.updI hd hσ hs ho hk hr, h.fr.sameBut hs (Ne.symm (h.ne hd)), h.env⟩

/-- a new named object -/
theorem Rep.own_new {h h' : Heap} {n : N} {a : Addr} {o : AO N} {ob : Obj} (R : Rep O T Φ σ h) (hk : ∀ b o, h.get? b = some o → h'.get? b = some o) (ha : T a = none) (hf : Φ a = none) (hσ : σ n = none) (hi : o.isInst = false)
    (ho : h'.get? a = some ob) (hr : OwnRep O (T.ins a (.own n)) n o ob) : Rep O (T.ins a (.own n)) Φ (σ.set n o) h' := by
  have R' := R.keeps hk
  have le : T.le (T.ins a (.own n)) := TM.le_ins ha
  have nn : ∀ b, T b ≠ some (.own n) := fun b e => by obtain ⟨x, _, y, y1, _⟩ := R.trk b _ e; rw [hσ] at y1; cases y1
  refine ⟨fun b u e => ?_, fun b o e => ?_, fun m o₁ e => ?_, fun m x y e e' => ?_, fun m x y e e' => ?_, fun b o e => le _ _ (R'.base b o e), fun b hb => le _ _ (R'.tabs b hb), fun b x e => (R'.noted b x ?_).keep le fun _ _ => rfl⟩
  · by_cases q : b = a
    · subst q
      rw [TM.ins_self] at e; cases e
      exact ⟨ob, ho, o, Sto.set_self, hr⟩
    · rw [TM.ins_ne q] at e
      obtain ⟨x, p, r⟩ := R'.trk b u e
      refine ⟨x, p, ?_⟩
      cases u with
      | own m =>
        obtain ⟨y, y1, y2⟩ := r
        have : m ≠ n := fun z => nn b (z ▸ e)
        exact ⟨y, (Sto.set_ne this).trans y1, y2.mono le⟩
      | part m =>
        obtain ⟨C, ns, vs, es, k, y1, y2, y3, y4⟩ := r
        have : m ≠ n := fun z => by rw [z, hσ] at y1; cases y1
        exact ⟨C, ns, vs, es, k, (Sto.set_ne this).trans y1, y2, y3, y4.mono le⟩
      | fro o => exact Cont.mono (σ := σ) le r
      | exc => exact Cont.mono (σ := σ) (t := .exc _ _ _ _) le r
      | tb => exact r
      | tab => exact Cont.mono (σ := σ) (t := .tab) le r
  · obtain ⟨p, q, r⟩ := R'.frs b o e
    refine ⟨?_, q, r⟩
    rw [TM.ins_ne (fun z => by rw [z, hf] at e; cases e)]; exact p
  · by_cases q : m = n
    · exact ⟨a, q ▸ TM.ins_self⟩
    · rw [Sto.set_ne q] at e
      obtain ⟨b, p⟩ := R'.own m o₁ e
      exact ⟨b, le _ _ p⟩
  · have old : ∀ z, T.ins a (.own n) z = some (.own m) → (z = a ∧ m = n) ∨ T z = some (.own m) := fun z q => by
      by_cases w : z = a
      · rw [w, TM.ins_self] at q; cases q; exact .inl ⟨w, rfl⟩
      · rw [TM.ins_ne w] at q; exact .inr q
    rcases old x e with ⟨p, q⟩ | p <;> rcases old y e' with ⟨p', q'⟩ | p'
    · exact p.trans p'.symm
    · exact absurd (q ▸ p') (nn y)
    · exact absurd (q' ▸ p) (nn x)
    · exact R.inj m x y p p'
  · have old : ∀ z, T.ins a (.own n) z = some (.part m) → T z = some (.part m) := fun z q => by
      by_cases w : z = a
      · rw [w, TM.ins_self] at q; cases q
      · rwa [TM.ins_ne w] at q
    exact R.pin m x y (old x e) (old y e')
  · by_cases w : b = a
    · rw [w, TM.ins_self] at e; cases e
    · rwa [TM.ins_ne w] at e
theorem At.own_new {n : N} {a : Addr} {o : AO N} {ob : Obj} {s' : Shared} (h : At O c A env T Φ ρ σ s) (hk : ∀ b o, s.heap.get? b = some o → s'.heap.get? b = some o) (ha : s.heap.objs.size ≤ a) (hσ : σ n = none) (hi : o.isInst = false)
    (ho : s'.heap.get? a = some ob) (hr : OwnRep O (T.ins a (.own n)) n o ob) : At O c A env (T.ins a (.own n)) Φ ρ (σ.set n o) s' := by
  have hT := h.rep.above_none ha
  refine ⟨h.rep.own_new hk hT (h.rep.above_none_fr ha) hσ hi ho hr, (h.fr.keeps hk).mono (TM.le_ins hT) ?_, h.env.mono (TM.le_ins hT)⟩
  rw [TM.ins_ne (Nat.ne_of_lt (Nat.lt_of_lt_of_le h.fr.lt ha))]; exact h.fr.fresh

/-- a new instance: the object and its dict -/
theorem Rep.inst_new {h h' : Heap} {n : N} {a d C : Addr} {ns : List Str} {vs : List (V N)} {es : List DictEntry} {k : Nat} (R : Rep O T Φ σ h) (hk : ∀ b o, h.get? b = some o → h'.get? b = some o) (ha : T a = none) (hfa : Φ a = none) (hd : T d = none) (hfd : Φ d = none) (had : a ≠ d)
    (hσ : σ n = none) (ho : h'.get? a = some (instObj C d)) (hod : h'.get? d = some (dictOf es k)) (hke : KeysAre O.w.params ns es) (hr : VReps O ((T.ins d (.part n)).ins a (.own n)) vs (es.map (·.val))) :
    Rep O ((T.ins d (.part n)).ins a (.own n)) Φ (σ.set n (.inst C ns vs)) h' := by
  have R' := R.keeps hk
  have ha' : T.ins d (.part n) a = none := (TM.ins_ne had).trans ha
  have le : T.le ((T.ins d (.part n)).ins a (.own n)) := TM.le_trans (TM.le_ins hd) (TM.le_ins ha')
  have hTd : (T.ins d (.part n)).ins a (.own n) d = some (.part n) := (TM.ins_ne (Ne.symm had)).trans TM.ins_self
  have nn : ∀ b, T b ≠ some (.own n) := fun b e => by obtain ⟨x, _, y, y1, _⟩ := R.trk b _ e; rw [hσ] at y1; cases y1
  have np : ∀ b, T b ≠ some (.part n) := fun b e => by obtain ⟨x, _, _, _, _, _, _, y1, _⟩ := R.trk b _ e; rw [hσ] at y1; cases y1
  have old : ∀ z t, (T.ins d (.part n)).ins a (.own n) z = some t → (z = a ∧ t = .own n) ∨ (z = d ∧ t = .part n) ∨ T z = some t := fun z t q => by
    by_cases w : z = a
    · rw [w, TM.ins_self] at q; cases q; exact .inl ⟨w, rfl⟩
    · rw [TM.ins_ne w] at q
      by_cases w' : z = d
      · rw [w', TM.ins_self] at q; cases q; exact .inr (.inl ⟨w', rfl⟩)
      · rw [TM.ins_ne w'] at q; exact .inr (.inr q)
  refine ⟨fun b u e => ?_, fun b o e => ?_, fun m o₁ e => ?_, fun m x y e e' => ?_, fun m x y e e' => ?_, fun b o e => le _ _ (R'.base b o e), fun b hb => le _ _ (R'.tabs b hb), fun b x e => (R'.noted b x ?_).keep le fun _ _ => rfl⟩
  · rcases old b u e with ⟨rfl, rfl⟩ | ⟨rfl, rfl⟩ | e
    · exact ⟨_, ho, _, Sto.set_self, d, rfl, hTd⟩
    · exact ⟨_, hod, C, ns, vs, es, k, Sto.set_self, rfl, hke, hr⟩
    · obtain ⟨x, p, r⟩ := R'.trk b u e
      refine ⟨x, p, ?_⟩
      cases u with
      | own m =>
        obtain ⟨y, y1, y2⟩ := r
        have : m ≠ n := fun z => nn b (z ▸ e)
        exact ⟨y, (Sto.set_ne this).trans y1, y2.mono le⟩
      | part m =>
        obtain ⟨C, ns, vs, es, k, y1, y2, y3, y4⟩ := r
        have : m ≠ n := fun z => by rw [z, hσ] at y1; cases y1
        exact ⟨C, ns, vs, es, k, (Sto.set_ne this).trans y1, y2, y3, y4.mono le⟩
      | fro o => exact Cont.mono (σ := σ) le r
      | exc => exact Cont.mono (σ := σ) (t := .exc _ _ _ _) le r
      | tb => exact r
      | tab => exact Cont.mono (σ := σ) (t := .tab) le r
  · obtain ⟨p, q, r⟩ := R'.frs b o e
    refine ⟨?_, q, r⟩
    rw [TM.ins_ne (fun z => by rw [z, hfa] at e; cases e), TM.ins_ne (fun z => by rw [z, hfd] at e; cases e)]; exact p
  · by_cases q : m = n
    · exact ⟨a, q ▸ TM.ins_self⟩
    · rw [Sto.set_ne q] at e
      obtain ⟨b, p⟩ := R'.own m o₁ e
      exact ⟨b, le _ _ p⟩
  · have oldn : ∀ z, (T.ins d (.part n)).ins a (.own n) z = some (.own m) → (z = a ∧ m = n) ∨ T z = some (.own m) := fun z q => by
      rcases old z _ q with ⟨p, r⟩ | ⟨_, r⟩ | p
      · exact .inl ⟨p, Trk.own.inj r⟩
      · cases r
      · exact .inr p
    rcases oldn x e with ⟨p, q⟩ | p <;> rcases oldn y e' with ⟨p', q'⟩ | p'
    · exact p.trans p'.symm
    · exact absurd (q ▸ p') (nn y)
    · exact absurd (q' ▸ p) (nn x)
    · exact R.inj m x y p p'
  · have oldn : ∀ z, (T.ins d (.part n)).ins a (.own n) z = some (.part m) → (z = d ∧ m = n) ∨ T z = some (.part m) := fun z q => by
      rcases old z _ q with ⟨_, r⟩ | ⟨p, r⟩ | p
      · cases r
      · exact .inl ⟨p, Trk.part.inj r⟩
      · exact .inr p
    rcases oldn x e with ⟨p, q⟩ | p <;> rcases oldn y e' with ⟨p', q'⟩ | p'
    · exact p.trans p'.symm
    · exact absurd (q ▸ p') (np y)
    · exact absurd (q' ▸ p) (np x)
    · exact R.pin m x y p p'
  · rcases old b _ e with ⟨_, r⟩ | ⟨_, r⟩ | r
    · cases r
    · cases r
    · exact r
theorem At.inst_new {n : N} {a d C : Addr} {ns : List Str} {vs : List (V N)} {es : List DictEntry} {k : Nat} {s' : Shared} (h : At O c A env T Φ ρ σ s) (hk : ∀ b o, s.heap.get? b = some o → s'.heap.get? b = some o) (ha : s.heap.objs.size ≤ a) (hd : s.heap.objs.size ≤ d) (had : a ≠ d)
    (hσ : σ n = none) (ho : s'.heap.get? a = some (instObj C d)) (hod : s'.heap.get? d = some (dictOf es k)) (hke : KeysAre O.w.params ns es) (hr : VReps O ((T.ins d (.part n)).ins a (.own n)) vs (es.map (·.val))) :
    At O c A env ((T.ins d (.part n)).ins a (.own n)) Φ ρ (σ.set n (.inst C ns vs)) s' := by
  have hT := h.rep.above_none ha
  have hTd := h.rep.above_none hd
  have ha' : T.ins d (.part n) a = none := (TM.ins_ne had).trans hT
  have le : T.le ((T.ins d (.part n)).ins a (.own n)) := TM.le_trans (TM.le_ins hTd) (TM.le_ins ha')
  refine ⟨h.rep.inst_new hk hT (h.rep.above_none_fr ha) hTd (h.rep.above_none_fr hd) had hσ ho hod hke hr, (h.fr.keeps hk).mono le ?_, h.env.mono le⟩
  rw [TM.ins_ne (Nat.ne_of_lt (Nat.lt_of_lt_of_le h.fr.lt ha)), TM.ins_ne (Nat.ne_of_lt (Nat.lt_of_lt_of_le h.fr.lt hd))]; exact h.fr.fresh
theorem TM.le_ins2 {a d : Addr} {t u : Trk N} (ha : T a = none) (hd : T d = none) (had : a ≠ d) : T.le ((T.ins d t).ins a u) := TM.le_trans (TM.le_ins hd) (TM.le_ins ((TM.ins_ne had).trans ha))
end
end Mine
namespace Mine

def Ext {N : Type} (T : TM N) (s : Shared) (T₁ : TM N) (s₁ : Shared) : Prop := T.le T₁ ∧ s₁.gens = s.gens ∧ s₁.os = s.os
section
variable {N : Type} {T T₁ T₂ : TM N} {s s₁ s₂ : Shared}
theorem Ext.refl (T : TM N) (s : Shared) : Ext T s T s := ⟨TM.le_refl _, rfl, rfl⟩
theorem Ext.trans (h : Ext T s T₁ s₁) (h' : Ext T₁ s₁ T₂ s₂) : Ext T s T₂ s₂ := ⟨TM.le_trans h.1 h'.1, h'.2.1.trans h.2.1, h'.2.2.trans h.2.2⟩
theorem Ext.of (le : T.le T₁) : Ext T s T₁ { s with heap := s₁.heap, toks := s₁.toks } := ⟨le, rfl, rfl⟩
end

section
variable {N : Type} {O : Om} {c : Cx N} {A : Around} {env : Env} {T T₀ T₁ : TM N} {Φ : Addr → Option Obj} {ρ ρ₁ : Loc N} {σ : Sto N} {s s₀ s₁ s' : Shared} {M : Model}

theorem Post.ext {Q : V N → Sto N → Prop} {v : Value} (x : Ext T s T₁ s₁) (h : Post O c A env Φ ρ T₁ s₁ Q v s') : Post O c A env Φ ρ T s Q v s' := let ⟨T, σ, v, a, b, d, e, f⟩ := h; ⟨T, σ, v, TM.le_trans x.1 a, b, d.trans x.2.1, e.trans x.2.2, f⟩
theorem PostY.ext {Q : V N → Sto N → Prop} {v : Value} (x : Ext T s T₁ s₁) (h : PostY O c A env Φ ρ T₁ s₁ Q v s') : PostY O c A env Φ ρ T s Q v s' := let ⟨T, σ, v, a, b, d, e, f⟩ := h; ⟨T, σ, v, TM.le_trans x.1 a, b, d.trans x.2.1, e.trans x.2.2, f⟩
theorem PostB.ext {Q : Bool → Sto N → Prop} {v : Bool} (x : Ext T s T₁ s₁) (h : PostB O c A env Φ ρ T₁ s₁ Q v s') : PostB O c A env Φ ρ T s Q v s' := let ⟨T, σ, a, b, d, e, f⟩ := h; ⟨T, σ, TM.le_trans x.1 a, b, d.trans x.2.1, e.trans x.2.2, f⟩
theorem PostU.ext {Q : Sto N → Prop} {v : Unit} (x : Ext T s T₁ s₁) (h : PostU O c A env Φ ρ T₁ s₁ Q v s') : PostU O c A env Φ ρ T s Q v s' := let ⟨T, σ, a, b, d, e, f⟩ := h; ⟨T, σ, TM.le_trans x.1 a, b, d.trans x.2.1, e.trans x.2.2, f⟩
theorem PostL.ext {Q : List (V N) → Sto N → Prop} {v : List Value} (x : Ext T s T₁ s₁) (h : PostL O c A env Φ ρ T₁ s₁ Q v s') : PostL O c A env Φ ρ T s Q v s' := let ⟨T, σ, v, a, b, d, e, f⟩ := h; ⟨T, σ, v, TM.le_trans x.1 a, b, d.trans x.2.1, e.trans x.2.2, f⟩
theorem PostF.ext {Q : AF N → Loc N → Sto N → Prop} {v : Flow} (x : Ext T s T₁ s₁) (h : PostF O c A env Φ T₁ s₁ Q v s') : PostF O c A env Φ T s Q v s' := let ⟨T, ρ, σ, v, a, b, d, e, f⟩ := h; ⟨T, ρ, σ, v, TM.le_trans x.1 a, b, d.trans x.2.1, e.trans x.2.2, f⟩
theorem PostX.ext {Q : V N → Loc N → Sto N → Prop} {v : Value} (x : Ext T s T₁ s₁) (h : PostX O c A env Φ T₁ s₁ Q v s') : PostX O c A env Φ T s Q v s' := let ⟨T, ρ, σ, v, a, b, d, e, f⟩ := h; ⟨T, ρ, σ, v, TM.le_trans x.1 a, b, d.trans x.2.1, e.trans x.2.2, f⟩
theorem Post.mk' {Q : V N → Sto N → Prop} {v : V N} {x : Value} (h : At O c A env T₁ Φ ρ σ s') (e : Ext T s T₁ s') (hv : VRep O T₁ v x) (hq : Q v σ) : Post O c A env Φ ρ T s Q x s' := ⟨T₁, σ, v, e.1, h, e.2.1, e.2.2, hv, hq⟩
theorem PostF.mk' {Q : AF N → Loc N → Sto N → Prop} {v : AF N} {x : Flow} (h : At O c A env T₁ Φ ρ σ s') (e : Ext T s T₁ s') (hv : AF.rep O T₁ v x) (hq : Q v ρ σ) : PostF O c A env Φ T s Q x s' := ⟨T₁, ρ, σ, v, e.1, h, e.2.1, e.2.2, hv, hq⟩

theorem PostF.nx {Q : AF N → Loc N → Sto N → Prop} (h : At O c A env T₁ Φ ρ σ s') (e : Ext T s T₁ s') (hq : Q .next ρ σ) : PostF O c A env Φ T s Q .next s' := .mk' (v := .next) h e rfl hq
theorem PostF.bk {Q : AF N → Loc N → Sto N → Prop} (h : At O c A env T₁ Φ ρ σ s') (e : Ext T s T₁ s') (hq : Q .brk ρ σ) : PostF O c A env Φ T s Q .brk s' := .mk' (v := .brk) h e rfl hq
theorem PostF.ct {Q : AF N → Loc N → Sto N → Prop} (h : At O c A env T₁ Φ ρ σ s') (e : Ext T s T₁ s') (hq : Q .cont ρ σ) : PostF O c A env Φ T s Q .cont s' := .mk' (v := .cont) h e rfl hq
theorem PostF.rt {Q : AF N → Loc N → Sto N → Prop} {v : V N} {x : Value} (h : At O c A env T₁ Φ ρ σ s') (e : Ext T s T₁ s') (hv : VRep O T₁ v x) (hq : Q (.ret v) ρ σ) : PostF O c A env Φ T s Q (.ret x) s' := .mk' (v := .ret v) h e ⟨x, rfl, hv⟩ hq

theorem PostF.nexts {Q : AF N → Loc N → Sto N → Prop} {Q' : Loc N → Sto N → Prop} {f : Flow} (h : PostF O c A env Φ T s (fun _ => Q') f s') (k : ∀ ρ σ, Q' ρ σ → Q .next ρ σ) : PostF O c A env Φ T s Q .next s' :=
  let ⟨T, ρ, σ, v, a, b, d, e, _, g⟩ := h; ⟨T, ρ, σ, .next, a, b, d, e, rfl, k _ _ g⟩

/-! what an expression's run hands to the rest: kE (into an expression), kF (into a statement) -/
section
variable {β : Type} {t : Sem Value} {tb : Sem Bool} {tl : Sem (List Value)} {tu : Sem Unit} {tf : Sem Flow} {Q₁ : V N → Sto N → Prop} {QB : Bool → Sto N → Prop} {QL : List (V N) → Sto N → Prop} {QU : Sto N → Prop} {QF : AF N → Loc N → Sto N → Prop} {X : V N → Sto N → Prop} {XF : V N → Loc N → Sto N → Prop}
theorem kE {R : Value → Shared → Prop} (x : Ext T s T₁ s₁) (h : wpAny M A t (Post O c A env Φ ρ T₁ s₁ Q₁) (PostY O c A env Φ ρ T₁ s₁ X) s₁)
    (k : ∀ T₂ σ₂ v a s₂, Ext T s T₂ s₂ → T₁.le T₂ → At O c A env T₂ Φ ρ σ₂ s₂ → VRep O T₂ v a → Q₁ v σ₂ → R a s₂) : wpAny M A t R (PostY O c A env Φ ρ T s X) s₁ :=
  wpAny_mono h (fun a s₂ ⟨T₂, σ₂, v, le, hA, hg, ho, hv, hq⟩ => k T₂ σ₂ v a s₂ (x.trans ⟨le, hg, ho⟩) le hA hv hq) fun _ _ e => e.ext x
theorem kB {R : Bool → Shared → Prop} (x : Ext T s T₁ s₁) (h : wpAny M A tb (PostB O c A env Φ ρ T₁ s₁ QB) (PostY O c A env Φ ρ T₁ s₁ X) s₁)
    (k : ∀ T₂ σ₂ b s₂, Ext T s T₂ s₂ → T₁.le T₂ → At O c A env T₂ Φ ρ σ₂ s₂ → QB b σ₂ → R b s₂) : wpAny M A tb R (PostY O c A env Φ ρ T s X) s₁ :=
  wpAny_mono h (fun a s₂ ⟨T₂, σ₂, le, hA, hg, ho, hq⟩ => k T₂ σ₂ a s₂ (x.trans ⟨le, hg, ho⟩) le hA hq) fun _ _ e => e.ext x
theorem kL {R : List Value → Shared → Prop} (x : Ext T s T₁ s₁) (h : wpAny M A tl (PostL O c A env Φ ρ T₁ s₁ QL) (PostY O c A env Φ ρ T₁ s₁ X) s₁)
    (k : ∀ T₂ σ₂ v a s₂, Ext T s T₂ s₂ → T₁.le T₂ → At O c A env T₂ Φ ρ σ₂ s₂ → VReps O T₂ v a → QL v σ₂ → R a s₂) : wpAny M A tl R (PostY O c A env Φ ρ T s X) s₁ :=
  wpAny_mono h (fun a s₂ ⟨T₂, σ₂, v, le, hA, hg, ho, hv, hq⟩ => k T₂ σ₂ v a s₂ (x.trans ⟨le, hg, ho⟩) le hA hv hq) fun _ _ e => e.ext x
theorem kU {R : Unit → Shared → Prop} (x : Ext T s T₁ s₁) (h : wpAny M A tu (PostU O c A env Φ ρ T₁ s₁ QU) (PostY O c A env Φ ρ T₁ s₁ X) s₁)
    (k : ∀ T₂ σ₂ s₂, Ext T s T₂ s₂ → T₁.le T₂ → At O c A env T₂ Φ ρ σ₂ s₂ → QU σ₂ → R () s₂) : wpAny M A tu R (PostY O c A env Φ ρ T s X) s₁ :=
  wpAny_mono h (fun a s₂ ⟨T₂, σ₂, le, hA, hg, ho, hq⟩ => k T₂ σ₂ s₂ (x.trans ⟨le, hg, ho⟩) le hA hq) fun _ _ e => e.ext x
theorem endE {R R' : V N → Sto N → Prop} (x : Ext T s T₁ s₁) (h : wpAny M A t (Post O c A env Φ ρ T₁ s₁ R) (PostY O c A env Φ ρ T₁ s₁ X) s₁) : wpAny M A t (Post O c A env Φ ρ T s R) (PostY O c A env Φ ρ T s X) s₁ :=
  wpAny_mono h (fun _ _ e => e.ext x) fun _ _ e => e.ext x
theorem endB {R : Bool → Sto N → Prop} (x : Ext T s T₁ s₁) (h : wpAny M A tb (PostB O c A env Φ ρ T₁ s₁ R) (PostY O c A env Φ ρ T₁ s₁ X) s₁) : wpAny M A tb (PostB O c A env Φ ρ T s R) (PostY O c A env Φ ρ T s X) s₁ :=
  wpAny_mono h (fun _ _ e => e.ext x) fun _ _ e => e.ext x
theorem endL {R : List (V N) → Sto N → Prop} (x : Ext T s T₁ s₁) (h : wpAny M A tl (PostL O c A env Φ ρ T₁ s₁ R) (PostY O c A env Φ ρ T₁ s₁ X) s₁) : wpAny M A tl (PostL O c A env Φ ρ T s R) (PostY O c A env Φ ρ T s X) s₁ :=
  wpAny_mono h (fun _ _ e => e.ext x) fun _ _ e => e.ext x
theorem endF (x : Ext T s T₁ s₁) (h : wpAny M A tf (PostF O c A env Φ T₁ s₁ QF) (PostX O c A env Φ T₁ s₁ XF) s₁) : wpAny M A tf (PostF O c A env Φ T s QF) (PostX O c A env Φ T s XF) s₁ :=
  wpAny_mono h (fun _ _ e => e.ext x) fun _ _ e => e.ext x
theorem kEF {R : Value → Shared → Prop} (x : Ext T s T₁ s₁) (h : wpAny M A t (Post O c A env Φ ρ T₁ s₁ Q₁) (PostY O c A env Φ ρ T₁ s₁ fun v σ => XF v ρ σ) s₁)
    (k : ∀ T₂ σ₂ v a s₂, Ext T s T₂ s₂ → T₁.le T₂ → At O c A env T₂ Φ ρ σ₂ s₂ → VRep O T₂ v a → Q₁ v σ₂ → R a s₂) : wpAny M A t R (PostX O c A env Φ T s XF) s₁ :=
  wpAny_mono h (fun a s₂ ⟨T₂, σ₂, v, le, hA, hg, ho, hv, hq⟩ => k T₂ σ₂ v a s₂ (x.trans ⟨le, hg, ho⟩) le hA hv hq) fun _ _ e => (e.toX).ext x
theorem kBF {R : Bool → Shared → Prop} (x : Ext T s T₁ s₁) (h : wpAny M A tb (PostB O c A env Φ ρ T₁ s₁ QB) (PostY O c A env Φ ρ T₁ s₁ fun v σ => XF v ρ σ) s₁)
    (k : ∀ T₂ σ₂ b s₂, Ext T s T₂ s₂ → T₁.le T₂ → At O c A env T₂ Φ ρ σ₂ s₂ → QB b σ₂ → R b s₂) : wpAny M A tb R (PostX O c A env Φ T s XF) s₁ :=
  wpAny_mono h (fun a s₂ ⟨T₂, σ₂, le, hA, hg, ho, hq⟩ => k T₂ σ₂ a s₂ (x.trans ⟨le, hg, ho⟩) le hA hq) fun _ _ e => (e.toX).ext x
theorem kUF {R : Unit → Shared → Prop} (x : Ext T s T₁ s₁) (h : wpAny M A tu (PostU O c A env Φ ρ T₁ s₁ QU) (PostY O c A env Φ ρ T₁ s₁ fun v σ => XF v ρ σ) s₁)
    (k : ∀ T₂ σ₂ s₂, Ext T s T₂ s₂ → T₁.le T₂ → At O c A env T₂ Φ ρ σ₂ s₂ → QU σ₂ → R () s₂) : wpAny M A tu R (PostX O c A env Φ T s XF) s₁ :=
  wpAny_mono h (fun a s₂ ⟨T₂, σ₂, le, hA, hg, ho, hq⟩ => k T₂ σ₂ s₂ (x.trans ⟨le, hg, ho⟩) le hA hq) fun _ _ e => (e.toX).ext x
theorem kF {R : Flow → Shared → Prop} (x : Ext T s T₁ s₁) (h : wpAny M A tf (PostF O c A env Φ T₁ s₁ QF) (PostX O c A env Φ T₁ s₁ XF) s₁)
    (k : ∀ T₂ ρ₂ σ₂ v a s₂, Ext T s T₂ s₂ → T₁.le T₂ → At O c A env T₂ Φ ρ₂ σ₂ s₂ → AF.rep O T₂ v a → QF v ρ₂ σ₂ → R a s₂) : wpAny M A tf R (PostX O c A env Φ T s XF) s₁ :=
  wpAny_mono h (fun a s₂ ⟨T₂, ρ₂, σ₂, v, le, hA, hg, ho, hv, hq⟩ => k T₂ ρ₂ σ₂ v a s₂ (x.trans ⟨le, hg, ho⟩) le hA hv hq) fun _ _ e => e.ext x
end
end

section
variable {N : Type} {O : Om} {c : Cx N} {ρ : Loc N} {σ : Sto N}
variable {Q X : V N → Sto N → Prop}

/-! constants and names -/
theorem AE.none (h : Q .none σ) : AE O c .none ρ σ Q X := fun A env T Φ s e he hA => by
  cases he; exact wpAny_Constant_none (.mk' hA (.refl _ _) (by unfold VRep; rfl) h)
theorem AE.bool {b : Bool} (h : Q (.bool b) σ) : AE O c (.bool b) ρ σ Q X := fun A env T Φ s e he hA => by
  cases he; exact wpAny_Constant_bool (.mk' hA (.refl _ _) (by unfold VRep; rfl) h)
theorem AE.int {i : Int} (h : Q (.int i) σ) : AE O c (.int i) ρ σ Q X := fun A env T Φ s e he hA => by
  cases he; exact wpAny_Constant_int (.mk' (hA.toks _) (.refl _ _) (by unfold VRep; exact ⟨_, rfl⟩) h)
theorem AE.str {x : Str} (h : Q (.str x) σ) : AE O c (.str x) ρ σ Q X := fun A env T Φ s e he hA => by
  cases he; exact wpAny_Constant_str (.mk' (hA.toks _) (.refl _ _) (by unfold VRep; exact ⟨_, rfl⟩) h)

theorem EnvOk.ekind {A : Around} {env : Env} {T : TM N} {Φ : Addr → Option Obj} (x : EnvOk O c A env T Φ) : env.scope.kind = .function := by rw [x.scope]; exact x.kind
theorem at_inj {fc : FC} {i : Nat} {x y : Str} {k j : NameKind} (h : fc.at i x k) (h' : fc.at i y j) : x = y ∧ k = j := by
  have := Option.some.inj (h.symm.trans h'); cases this; exact ⟨rfl, rfl⟩

theorem AE.loc {i : Nat} {v : V N} (hv : ρ i = some v) (h : Q v σ) : AE O c (.loc i) ρ σ Q X := fun A env T Φ s e he hA => by
  cases he with
  | loc ha hd =>
    obtain ⟨m, hm, hall⟩ := hA.fr.ns
    obtain ⟨x', val, hx, hmx, hr⟩ := hall i v hv
    obtain ⟨rfl, _⟩ := at_inj hx ha
    exact wpAny_Name (wpAny_loadName_local hA.env.ekind (hA.env.kindOf ha) hm hmx (.mk' hA (.refl _ _) hr h)) hd

theorem AE.st {v : Value} (ok : O.Ok) (h : Q (.st v) σ) : AE O c (.st v) ρ σ Q X := fun A env T Φ s e he hA => by
  cases he with
  | st ha hg hd =>
    refine Name_function_global hA.env.ekind (hA.env.kindOf ha) ?_ hd
    have top := hA.top ok
    have hQ := Post.mk' (Q := Q) hA (.refl _ _) (show VRep O T (.st v) v by unfold VRep; rfl) h
    unfold globOf at hg
    split at hg
    · rename_i u e; cases hg; exact loadGlobal_global (by rw [hA.env.globals]; exact top.g) e hQ
    · rename_i e; exact loadGlobal_builtin (by rw [hA.env.globals]; exact top.g) e (by rw [hA.env.builtins]; exact top.b) hg hQ

theorem AE.celOf {i : Nat} {v : V N} (hκ : ∃ u, c.κ i = some u ∧ ((∃ n, u = .cel n ∧ σ n = some (.cell (some v))) ∨ (u = v ∧ v.isCel = false))) (h : Q v σ) : AE O c (.cel i) ρ σ Q X := fun A env T Φ s e he hA => by
  obtain ⟨u, hu, hcase⟩ := hκ
  obtain ⟨x, k, a, hx, hk, hl, hok⟩ := hA.env.cells i u hu
  have hcell : ∃ val, s.heap.IsCell a (some val) ∧ VRep O T v val := by
    rcases hcase with ⟨n, rfl, hσ⟩ | ⟨rfl, hn⟩
    · rcases hok with ⟨n', e, ht⟩ | ⟨w, sl, hz, hw, ht, hdt⟩
      · cases e
        obtain ⟨ob, hob, o, ho, hr⟩ := hA.rep.trk a _ ht
        rw [hσ] at ho; cases ho
        obtain ⟨y, hd, hy⟩ := hr
        exact ⟨y, ⟨_, hob, hd⟩, hy⟩
      · cases hz
    · rcases hok with ⟨n', rfl, ht⟩ | ⟨w, sl, hz, hw, ht, hdt⟩
      · cases hn
      · exact ⟨w, ⟨_, hA.fro ht, hdt⟩, hw⟩
  obtain ⟨val, hc, hr⟩ := hcell
  have hQ := Post.mk' (Q := Q) hA (.refl _ _) hr h
  cases he with
  | cel ha hd =>
    obtain ⟨rfl, _⟩ := at_inj hx ha
    exact wpAny_Name (wpAny_loadName_cell hA.env.ekind (hA.env.kindOf ha) hl hc hQ) hd
  | fre ha hd hn =>
    obtain ⟨rfl, _⟩ := at_inj hx ha
    exact wpAny_Name (wpAny_loadName_free hA.env.ekind (hA.env.kindOf ha) hl hc hQ hn) hd
theorem AE.cel {i : Nat} {n : N} {v : V N} (hκ : c.κ i = some (.cel n)) (hσ : σ n = some (.cell (some v))) (h : Q v σ) : AE O c (.cel i) ρ σ Q X := .celOf ⟨_, hκ, .inl ⟨n, rfl, hσ⟩⟩ h
theorem AE.celR {i : Nat} {v : V N} (hκ : c.κ i = some v) (hv : v.isCel = false) (h : Q v σ) : AE O c (.cel i) ρ σ Q X := .celOf ⟨_, hκ, .inr ⟨rfl, hv⟩⟩ h

/-! operators, tests -/
theorem AE.bin {op : Operator} {a b : ME} (h : AE O c a ρ σ (fun x σ₁ => AE O c b ρ σ₁ (fun y σ₂ => P2 O c (binaryOp op) x y ρ σ₂ Q X) X) X) : AE O c (.bin op a b) ρ σ Q X := fun A env T Φ s e he hA => by
  cases he with
  | bin ha hb =>
    exact wpAny_BinOp (kE (.refl _ _) (h A env T Φ s _ ha hA) fun T₁ σ₁ x v s₁ e₁ le₁ h₁ hv hq => kE e₁ (hq A env T₁ Φ s₁ _ hb h₁) fun T₂ σ₂ y u s₂ e₂ le₂ h₂ hu hq₂ =>
      endE (R' := Q) e₂ (hq₂ A env T₂ Φ s₂ v u h₂ (hv.mono le₂) hu))
theorem AE.not {a : ME} (h : AE O c a ρ σ (fun x σ₁ => P1 O c (unaryOp .Not) x ρ σ₁ Q X) X) : AE O c (.not a) ρ σ Q X := fun A env T Φ s e he hA => by
  cases he with
  | not ha => exact wpAny_UnaryOp (kE (.refl _ _) (h A env T Φ s _ ha hA) fun T₁ σ₁ x v s₁ e₁ le₁ h₁ hv hq => endE (R' := Q) e₁ (hq A env T₁ Φ s₁ v h₁ hv))
theorem AE.neg {a : ME} (h : AE O c a ρ σ (fun x σ₁ => P1 O c (unaryOp .USub) x ρ σ₁ Q X) X) : AE O c (.neg a) ρ σ Q X := fun A env T Φ s e he hA => by
  cases he with
  | neg ha => exact wpAny_UnaryOp (kE (.refl _ _) (h A env T Φ s _ ha hA) fun T₁ σ₁ x v s₁ e₁ le₁ h₁ hv hq => endE (R' := Q) e₁ (hq A env T₁ Φ s₁ v h₁ hv))
theorem AE.ite {t a b : ME} (h : AT O c t ρ σ (fun r σ₁ => if r then AE O c a ρ σ₁ Q X else AE O c b ρ σ₁ Q X) X) : AE O c (.ite t a b) ρ σ Q X := fun A env T Φ s e he hA => by
  cases he with
  | ite ht ha hb =>
    refine wpAny_IfExp (kB (.refl _ _) (h A env T Φ s _ ht hA) fun T₁ σ₁ r s₁ e₁ le₁ h₁ hq => ?_)
    cases r with
    | true => exact endE (R' := Q) e₁ (hq A env T₁ Φ s₁ _ ha h₁)
    | false => exact endE (R' := Q) e₁ (hq A env T₁ Φ s₁ _ hb h₁)

theorem behind_plain {op : CmpOp} {e : PySem.Expr} (h : ∀ l k q, e ≠ .Set l k q) : behindInMarks op e = false := by
  cases e <;> first | rfl | exact absurd rfl (h _ _ _)

theorem AE.cmp {op : CmpOp} {a b : ME} (h : AE O c a ρ σ (fun x σ₁ => AE O c b ρ σ₁ (fun y σ₂ => P2 O c (compareOp op) x y ρ σ₂ Q X) X) X) : AE O c (.cmp a [op] [b]) ρ σ Q X := fun A env T Φ s e he hA => by
  cases he with
  | cmp ha hbs hns =>
    cases hbs with
    | cons hb hst hnil =>
      cases hnil
      exact wpAny_Compare1 (kE (.refl _ _) (h A env T Φ s _ ha hA) fun T₁ σ₁ x v s₁ e₁ le₁ h₁ hv hq => kE e₁ (hq A env T₁ Φ s₁ _ hb h₁) fun T₂ σ₂ y u s₂ e₂ le₂ h₂ hu hq₂ =>
        endE (R' := Q) e₂ (hq₂ A env T₂ Φ s₂ v u h₂ (hv.mono le₂) hu)) (behind_plain fun l k q => hns _ (.head _) l k q)
theorem AT.cmp {op : CmpOp} {a b : ME} {Q : Bool → Sto N → Prop} (h : AE O c a ρ σ (fun x σ₁ => AE O c b ρ σ₁ (fun y σ₂ => P2 O c (compareOp op) x y ρ σ₂ (fun z σ₃ => P1B O c truthy z ρ σ₃ Q X) X) X) X) : AT O c (.cmp a [op] [b]) ρ σ Q X := fun A env T Φ s e he hA => by
  cases he with
  | cmp ha hbs hns =>
    cases hbs with
    | cons hb hst hnil =>
      cases hnil
      exact wpAny_isTrue_Compare1 (kE (.refl _ _) (h A env T Φ s _ ha hA) fun T₁ σ₁ x v s₁ e₁ le₁ h₁ hv hq => kE e₁ (hq A env T₁ Φ s₁ _ hb h₁) fun T₂ σ₂ y u s₂ e₂ le₂ h₂ hu hq₂ =>
        kE e₂ (hq₂ A env T₂ Φ s₂ v u h₂ (hv.mono le₂) hu) fun T₃ σ₃ z d s₃ e₃ le₃ h₃ hd hq₃ => endB e₃ (hq₃ A env T₃ Φ s₃ d h₃ hd)) (behind_plain fun l k q => hns _ (.head _) l k q)
theorem AT.not {a : ME} {Q : Bool → Sto N → Prop} (h : AT O c a ρ σ (fun b σ₁ => Q (!b) σ₁) X) : AT O c (.not a) ρ σ Q X := fun A env T Φ s e he hA => by
  cases he with
  | not ha => exact wpAny_isTrue_Not (kB (.refl _ _) (h A env T Φ s _ ha hA) fun T₁ σ₁ b s₁ e₁ le₁ h₁ hq => ⟨T₁, σ₁, e₁.1, h₁, e₁.2.1, e₁.2.2, hq⟩)
end
end Mine
namespace Mine
section
variable {N : Type} {O : Om} {c : Cx N} {A : Around} {env : Env} {T T₀ T₁ : TM N} {Φ : Addr → Option Obj} {ρ ρ₁ : Loc N} {σ : Sto N} {s s₀ s₁ s' : Shared} {M : Model}

/-- what lies at a tracked address is written over by its like -/
theorem Rep.put {h h' : Heap} {a : Addr} {t : Trk N} {ob : Obj} (R : Rep O T Φ σ h) (ha : T a = some t) (hs : Heap.SameBut a h h') (ho : h'.get? a = some ob) (hc : Cont O T σ t ob) (hn : NotedAt T h a → NotedAt T h' a) : Rep O T Φ σ h' := by
  refine ⟨fun b u e => ?_, fun b o e => ?_, R.own, R.inj, R.pin, R.base, R.tabs, fun b x e => ?_⟩
  · by_cases q : b = a
    · subst q; rw [ha] at e; cases e; exact ⟨ob, ho, hc⟩
    · obtain ⟨x, p, r⟩ := R.trk b u e; exact ⟨x, (hs.2 b q).trans p, r⟩
  · obtain ⟨p, q, sl, r⟩ := R.frs b o e
    have hz := hs.2 b fun z => by rw [z, ha] at p; cases p
    exact ⟨p, fun z => hz.trans (q z), sl, hz.trans r⟩
  · by_cases q : x = a
    · subst q; exact hn (R.noted b _ e)
    · exact (R.noted b x e).keep (TM.le_refl _) fun _ _ => hs.2 x q
theorem At.put {a : Addr} {t : Trk N} {ob : Obj} (h : At O c A env T Φ ρ σ s) (ha : T a = some t) (hs : Heap.SameBut a s.heap s'.heap) (ho : s'.heap.get? a = some ob) (hc : Cont O T σ t ob) (hn : NotedAt T s.heap a → NotedAt T s'.heap a) : At O c A env T Φ ρ σ s' :=
  ⟨h.rep.put ha hs ho hc hn, h.fr.sameBut hs (Ne.symm (h.ne ha)), h.env⟩
theorem not_noted {h : Heap} {a x : Addr} {P : Prop} (ha : T a = some (.tb x)) : NotedAt T h a → P := fun ⟨_, _, _, _, _, _, w, _⟩ => by rw [ha] at w; cases w

/-- an exception gets its first entry -/
theorem Rep.putTb {h h' : Heap} {a b : Addr} {t : Trk N} {ob tbo : Obj} (R : Rep O T Φ σ h) (ha : T a = some t) (hs : Heap.SameBut a h h') (ho : h'.get? a = some ob) (hb : T b = none) (hbf : Φ b = none) (hob : h'.get? b = some tbo) (hct : Cont O (T.ins b (.tb a)) σ (.tb a) tbo)
    (hc : Cont O (T.ins b (.tb a)) σ t ob) (hn : NotedAt (T.ins b (.tb a)) h' a) : Rep O (T.ins b (.tb a)) Φ σ h' := by
  have le : T.le (T.ins b (.tb a)) := TM.le_ins hb
  have hab : a ≠ b := fun q => by rw [q, hb] at ha; cases ha
  have old : ∀ z t, T.ins b (.tb a) z = some t → (z = b ∧ t = .tb a) ∨ T z = some t := fun z t q => by
    by_cases w : z = b
    · rw [w, TM.ins_self] at q; cases q; exact .inl ⟨w, rfl⟩
    · rw [TM.ins_ne w] at q; exact .inr q
  refine ⟨fun z u e => ?_, fun z o e => ?_, fun n o e => let ⟨z, q⟩ := R.own n o e; ⟨z, le _ _ q⟩, fun n x y e e' => ?_, fun n x y e e' => ?_, fun z o e => le _ _ (R.base z o e), fun z hz => le _ _ (R.tabs z hz), fun z x e => ?_⟩
  · rcases old z u e with ⟨rfl, rfl⟩ | e2
    · exact ⟨tbo, hob, hct⟩
    · by_cases q : z = a
      · rw [q] at e2 ⊢
        rw [ha] at e2; cases e2; exact ⟨ob, ho, hc⟩
      · obtain ⟨x, p, r⟩ := R.trk z u e2; exact ⟨x, (hs.2 z q).trans p, r.mono le⟩
  · obtain ⟨p, q, sl, r⟩ := R.frs z o e
    have hz := hs.2 z fun w => by rw [w, ha] at p; cases p
    refine ⟨?_, fun w => hz.trans (q w), sl, hz.trans r⟩
    rw [TM.ins_ne fun w => by rw [w, hbf] at e; cases e]; exact p
  · rcases old x _ e with ⟨_, r⟩ | r
    · cases r
    · rcases old y _ e' with ⟨_, r'⟩ | r'
      · cases r'
      · exact R.inj n x y r r'
  · rcases old x _ e with ⟨_, r⟩ | r
    · cases r
    · rcases old y _ e' with ⟨_, r'⟩ | r'
      · cases r'
      · exact R.pin n x y r r'
  · rcases old z _ e with ⟨_, r⟩ | r
    · cases r; exact hn
    · by_cases q : x = a
      · rw [q]; exact hn
      · exact (R.noted z x r).keep le fun _ _ => hs.2 x q
theorem At.putTb {a b : Addr} {t : Trk N} {ob tbo : Obj} (h : At O c A env T Φ ρ σ s) (ha : T a = some t) (hs : Heap.SameBut a s.heap s'.heap) (ho : s'.heap.get? a = some ob) (hb : T b = none) (hbf : Φ b = none) (hbl : b ≠ env.locals) (hob : s'.heap.get? b = some tbo) (hct : Cont O (T.ins b (.tb a)) σ (.tb a) tbo)
    (hc : Cont O (T.ins b (.tb a)) σ t ob) (hn : NotedAt (T.ins b (.tb a)) s'.heap a) : At O c A env (T.ins b (.tb a)) Φ ρ σ s' :=
  ⟨h.rep.putTb ha hs ho hb hbf hob hct hc hn, (h.fr.sameBut hs (Ne.symm (h.ne ha))).mono (TM.le_ins hb) (by rw [TM.ins_ne (Ne.symm hbl)]; exact h.fr.fresh), h.env.mono (TM.le_ins hb)⟩

/-- the frames' own slots may turn -/
theorem At.slots {S : List Addr} (h : At O c A env T Φ ρ σ s) (hS : ∀ b ∈ S, T b = none ∧ ∀ o, Φ b = some o → FrLike o) (x : Heap.SlotsOnly S s.heap s'.heap) : At O c A env T Φ ρ σ s' := by
  refine ⟨⟨fun a t e => ?_, fun a o e => ?_, h.rep.own, h.rep.inj, h.rep.pin, h.rep.base, h.rep.tabs, fun b y e => (h.rep.noted b y e).keep (TM.le_refl _) fun t q => x.2.1 y fun hm => by rw [(hS y hm).1] at q; cases q⟩, ⟨h.fr.fresh, h.fr.off, ?_⟩, h.env⟩
  · obtain ⟨ob, p, q⟩ := h.rep.trk a t e
    exact ⟨ob, (x.2.1 a fun hm => by rw [(hS a hm).1] at e; cases e).trans p, q⟩
  · obtain ⟨p, q, sl, r⟩ := h.rep.frs a o e
    obtain ⟨sl', r'⟩ := x.2.2 a _ r
    exact ⟨p, fun z => (x.2.1 a fun hm => z ((hS a hm).2 o e)).trans (q z), sl', r'⟩
  · obtain ⟨m, ⟨o, es, ep, ho, hd, hk, hf⟩, q⟩ := h.fr.ns
    obtain ⟨sl, ho'⟩ := x.2.2 _ _ ho
    exact ⟨m, ⟨_, es, ep, ho', hd, hk, hf⟩, q⟩

theorem At.funFrames (h : At O c A env T Φ ρ σ s) : ∀ {l : List Env}, (∀ e ∈ l, e.scope.kind ≠ .module ∧ ∃ L, e.frame = some L ∧ (L = env.locals ∨ ∃ o, Φ L = some o ∧ FrLike o)) → s.heap.FunFrames {} l ∧ ∀ b ∈ l.filterMap (·.frame), T b = none ∧ ∀ o, Φ b = some o → FrLike o
  | [], _ => ⟨trivial, fun _ hb => by simp at hb⟩
  | e :: l, hl => by
    obtain ⟨hk, L, hL, hc⟩ := hl e (.head _)
    obtain ⟨r1, r2⟩ := h.funFrames (l := l) fun e' he => hl e' (.tail _ he)
    have key : (T L = none ∧ ∀ o, Φ L = some o → FrLike o) ∧ ∃ o, s.heap.get? L = some o ∧ ∀ vs, o.data ≠ .fields vs := by
      rcases hc with rfl | ⟨o, ho, hq⟩
      · obtain ⟨m, ⟨o, es, ep, ho, hd, _⟩, _⟩ := h.fr.ns
        exact ⟨⟨h.fr.fresh, fun o e => by rw [h.fr.off] at e; cases e⟩, o, ho, fun vs e => by rw [hd] at e; cases e⟩
      · obtain ⟨p, q, sl, r⟩ := h.rep.frs L o ho
        exact ⟨⟨p, fun o' e => by rw [ho] at e; cases e; exact hq⟩, _, r, hq.1⟩
    obtain ⟨k1, o, k2, k3⟩ := key
    refine ⟨⟨hk, ⟨L, o, hL, rfl, k2, k3⟩, r1⟩, fun b hb => ?_⟩
    rw [List.filterMap_cons, hL] at hb
    rcases List.mem_cons.mp hb with rfl | hb
    · exact k1
    · exact r2 b hb

theorem frame_some (h : At O c A env T Φ ρ σ s) : ∃ f, env.frame = some f := by
  obtain ⟨e0, l, _, h2, h3⟩ := h.env.frames
  obtain ⟨_, L, hL, _⟩ := h3 e0 (.head _)
  exact ⟨L, h2.symm.trans hL⟩

theorem frameOf_ok {E : Value → Shared → Prop} {Q : Value → Shared → Prop} (h : At O c A env T Φ ρ σ s) {f : Addr} (hf : env.frame = some f)
    (k : ∀ h', (∀ a t, T a = some t → h'.get? a = s.heap.get? a) → s.heap.objs.size = h'.objs.size → At O c A env T Φ ρ σ { s with heap := h' } → Q (.ref f) { s with heap := h' }) : wpAny M A (PySem.frameOf env) Q E s := by
  obtain ⟨e0, l, h1, h2, h3⟩ := h.env.frames
  obtain ⟨g1, g2⟩ := h.funFrames h3
  unfold PySem.frameOf
  refine wpAny_bind (wpAny_frameEnvs h1 ?_)
  have hdw : ((e0 :: l).dropWhile fun x => x.frame != env.frame) = e0 :: l := by simp [List.dropWhile, h2]
  rw [hdw]
  unfold frameObject
  refine wpAny_bind (wpAny_bind (wpAny_readyFrames_fun g1 fun h₁ hs₁ => wpAny_pure ?_))
  rw [h2, hf]
  exact wpAny_pure (k h₁ (fun a t e => hs₁.2.1 a fun hm => by rw [(g2 a hm).1] at e; cases e) hs₁.1.symm (h.slots (s' := { s with heap := h₁ }) g2 hs₁))

theorem setAt {vs : Array Value} {i : Nat} {x : Value} (h : i < vs.size) : (vs.setIfInBounds i x)[i]? = some x := by rw [Array.getElem?_setIfInBounds]; simp [h]

/-- an exception that this frame's traceback tells -/
def Noted (T : TM N) (a : Addr) : Prop := ∃ b, T b = some (.tb a)
theorem Noted.mono {a : Addr} (h : Noted T a) (le : T.le T₁) : Noted T₁ a := let ⟨b, e⟩ := h; ⟨b, le _ _ e⟩
theorem At.noted {a : Addr} (h : At O c A env T Φ ρ σ s) (hn : Noted T a) : ∃ ob vs b, s.heap.get? a = some ob ∧ ob.data = .fields vs ∧ vs[1]? = some (.ref b) := let ⟨b, e⟩ := hn; let ⟨_, _, _, ob, vs, b', _, p, q, r⟩ := h.rep.noted b a e; ⟨ob, vs, b', p, q, r⟩

theorem exc_at {cc : Value} {cf : Bool} {ns : List Str} {vs : List (V N)} {x : Value} (h : VRep O T (.exc cc cf ns vs) x) : ∃ a d, x = .ref a ∧ T a = some (.exc a cc cf d) := by
  unfold VRep at h
  obtain ⟨a, rfl, ⟨_, _, e⟩ | ⟨d, es, n, e, _⟩⟩ := h
  · exact ⟨a, _, rfl, e⟩
  · exact ⟨a, _, rfl, e⟩

theorem noteFrame_ok {E : Value → Shared → Prop} {Q : Unit → Shared → Prop} {a : Addr} {cc : Value} {cf : Bool} {d : Option Addr} (h : At O c A env T Φ ρ σ s) (ha : T a = some (.exc a cc cf d))
    (k : ∀ T₁ s₁, Ext T s T₁ s₁ → At O c A env T₁ Φ ρ σ s₁ → Noted T₁ a → Q () s₁) : wpAny M A (noteFrame (.ref a) env) Q E s := by
  obtain ⟨f, hf⟩ := frame_some h
  obtain ⟨ob, hob, vs, rfl, hsz, htb, hctx⟩ := h.rep.trk a _ ha
  -- the new entry
  have entry : ∀ (s₁ : Shared) (head : Value) (hadNext : Bool), Ext T s T s₁ → At O c A env T Φ ρ σ s₁ →
      wpAny M A (do let fr ← PySem.frameOf env; let pl ← entryPlaceOf f hadNext; let b ← EntryCells.newEntry head fr .none (rawInt f) .none pl; setField (.ref a) 1 b) Q E s₁ := by
    intro s₁ head hadNext e₁ h₁
    refine wpAny_bind (frameOf_ok h₁ hf fun h₂ keep hsize hA₂ => ?_)
    refine wpAny_bind (wpAny_entryPlaceOf fun pl hpl => ?_)
    unfold EntryCells.newEntry newFields
    refine wpAny_bind (wpAny_newObj_type ?_ (hpl.sizeOk5 _ _ _ _ _))
    obtain ⟨ob₂, hob₂, vs₂, rfl, hsz₂, htb₂, hctx₂⟩ := hA₂.rep.trk a _ ha
    have hT : T h₂.objs.size = none := hA₂.rep.size_none
    have hne : a ≠ h₂.objs.size := fun q => by rw [q, hT] at ha; cases ha
    have hA₃ : At O c A env T Φ ρ σ { s₁ with heap := h₂.push { cls := .type "traceback", dict := none, data := .fields ([head, .ref f, .none, rawInt f, .none] ++ (if pl.isEmpty then List.replicate 6 Value.none else pl)).toArray } } :=
      hA₂.keeps (s' := { s₁ with heap := h₂.push _ }) (fun b o e => Heap.get?_push_of_some _ e)
    have hob₃ := Heap.get?_push_of_some (h := h₂) { cls := .type "traceback", dict := none, data := .fields ([head, .ref f, .none, rawInt f, .none] ++ (if pl.isEmpty then List.replicate 6 Value.none else pl)).toArray } hob₂
    have hnew : (h₂.push { cls := .type "traceback", dict := none, data := .fields ([head, .ref f, .none, rawInt f, .none] ++ (if pl.isEmpty then List.replicate 6 Value.none else pl)).toArray }).get? h₂.objs.size = some { cls := .type "traceback", dict := none, data := .fields ([head, .ref f, .none, rawInt f, .none] ++ (if pl.isEmpty then List.replicate 6 Value.none else pl)).toArray } := Heap.get?_push_size _ rfl
    refine wpAny_setField hob₃ rfl (by omega) ?_
    have hself := Heap.get?_update_self (Obj.mapFields (·.setIfInBounds 1 (Value.ref h₂.objs.size))) hob₃ rfl
    have hup := (Heap.get?_update_other (h₂.push { cls := .type "traceback", dict := none, data := .fields ([head, .ref f, .none, rawInt f, .none] ++ (if pl.isEmpty then List.replicate 6 Value.none else pl)).toArray }) (Obj.mapFields (·.setIfInBounds 1 (Value.ref h₂.objs.size))) hne).trans hnew
    refine k (T.ins h₂.objs.size (.tb a)) _ (e₁.trans ⟨TM.le_ins hT, rfl, rfl⟩) (hA₃.putTb ha (Heap.SameBut.update ..) hself hT hA₂.rep.size_none_fr (fun q => by have := hA₂.fr.lt; rw [← q] at this; exact Nat.lt_irrefl _ this) hup ?_ ⟨_, rfl, by simpa using hsz₂, .inr ⟨_, setAt (by omega), TM.ins_self⟩, fun z => ?_⟩ ?_) ⟨_, TM.ins_self⟩
    · exact ⟨_, rfl, by rcases hpl with rfl | ⟨_, _, _, _, _, _, _, rfl⟩ <;> simp⟩
    · have := hctx₂ z
      simpa [Array.getElem?_setIfInBounds] using this
    · exact ⟨cc, cf, d, _, _, _, (TM.le_ins hT) _ _ ha, hself, rfl, setAt (by omega)⟩
  unfold noteFrame
  simp only [hf]
  rcases htb with h0 | ⟨b, hb, hbt⟩
  · refine wpAny_bind (wpAny_field hob rfl h0 ?_)
    rw [if_neg (by decide)]
    exact entry s _ _ (.refl _ _) h
  · refine wpAny_bind (wpAny_field hob rfl hb ?_)
    rw [if_pos (by simp)]
    obtain ⟨obt, hobt, ts, rfl, hts⟩ := h.rep.trk b _ hbt
    refine wpAny_bind (wpAny_field hobt rfl (x := ts[3]) (by simp [hts]) ?_)
    by_cases q : (ts[3] == rawInt f) = true
    · rw [if_pos q]
      exact wpAny_pure (k T s (.refl _ _) h ⟨b, hbt⟩)
    · rw [if_neg q]
      refine wpAny_bind (wpAny_setField hobt rfl (by omega) ?_)
      refine entry _ _ _ ⟨TM.le_refl _, rfl, rfl⟩ (h.put hbt (Heap.SameBut.update ..) (Heap.get?_update_self _ hobt rfl) ⟨_, rfl, by simpa using hts⟩ (not_noted hbt))

theorem exc_of {v : V N} {x : Value} (h : VRep O T v x) (e : v.isExc = true) : ∃ a cc cf d, x = .ref a ∧ T a = some (.exc a cc cf d) := by
  cases v <;> first | cases e | skip
  obtain ⟨a, d, h1, h2⟩ := exc_at h
  exact ⟨a, _, _, d, h1, h2⟩

theorem setFlight_ok {E : Value → Shared → Prop} {Q : Unit → Shared → Prop} {a : Addr} {cc : Value} {cf : Bool} {d : Option Addr} {fr : Option Addr} (h : At O c A env T Φ ρ σ s) (ha : T a = some (.exc a cc cf d))
    (k : ∀ s₁, Ext T s T s₁ → At O c A env T Φ ρ σ s₁ → Q () s₁) : wpAny M A (setFlight (.ref a) fr) Q E s := by
  obtain ⟨ob, hob, vs, rfl, hsz, htb, hctx⟩ := h.rep.trk a _ ha
  unfold setFlight
  rcases htb with h0 | ⟨b, hb, hbt⟩
  · refine wpAny_bind (wpAny_field hob rfl h0 ?_)
    rw [if_neg (by decide)]
    exact wpAny_pure (k s (.refl _ _) h)
  · refine wpAny_bind (wpAny_field hob rfl hb ?_)
    rw [if_pos (by simp)]
    obtain ⟨obt, hobt, ts, rfl, hts⟩ := h.rep.trk b _ hbt
    refine wpAny_setField hobt rfl (by omega) ?_
    exact k _ ⟨TM.le_refl _, rfl, rfl⟩ (h.put hbt (Heap.SameBut.update ..) (Heap.get?_update_self _ hobt rfl) ⟨_, rfl, by simpa using hts⟩ (not_noted hbt))

/-- an exception on its way, told by this frame -/
def PostN (O : Om) (c : Cx N) (A : Around) (env : Env) (Φ : Addr → Option Obj) (T₀ : TM N) (s₀ : Shared) (X : V N → Loc N → Sto N → Prop) : Value → Shared → Prop := fun val s =>
  ∃ T ρ σ v a, T₀.le T ∧ At O c A env T Φ ρ σ s ∧ s.gens = s₀.gens ∧ s.os = s₀.os ∧ val = .ref a ∧ VRep O T v val ∧ v.isExc = true ∧ Noted T a ∧ X v ρ σ

theorem noted_ok {X : V N → Loc N → Sto N → Prop} {x : Value} {E : Value → Shared → Prop} (h : PostX O c A env Φ T s X x s') (k : ∀ s'', PostN O c A env Φ T s X x s'' → E x s'') : notedBy M A env E x s' := by
  obtain ⟨T₁, ρ, σ, v, le, hA, hg, ho, hv, hx, hq⟩ := h
  obtain ⟨a, cc, cf, d, rfl, ha⟩ := exc_of hv hx
  exact noteFrame_ok hA ha fun T₂ s₂ e h₂ hn => k s₂ ⟨T₂, ρ, σ, v, a, TM.le_trans le e.1, h₂, e.2.1.trans hg, e.2.2.trans ho, rfl, hv.mono e.1, hx, hn, hq⟩

theorem back_ok {X : V N → Loc N → Sto N → Prop} {x : Value} {E : Value → Shared → Prop} (h : PostN O c A env Φ T s X x s') (k : ∀ s'', PostN O c A env Φ T s X x s'' → E x s'') : cameBackBy M A env E x s' := by
  obtain ⟨T₁, ρ, σ, v, a, le, hA, hg, ho, rfl, hv, hx, hn, hq⟩ := h
  obtain ⟨a', cc, cf, d, e, ha⟩ := exc_of hv hx
  cases e
  obtain ⟨ob, vs, b, h1, h2, h3⟩ := hA.noted hn
  unfold cameBackBy
  refine wpAny_bind (wpAny_field h1 h2 h3 ?_)
  rw [if_neg (by simp)]
  exact setFlight_ok hA ha fun s₂ e h₂ => k s₂ ⟨T₁, ρ, σ, v, a, le, h₂, e.2.1.trans hg, e.2.2.trans ho, rfl, hv, hx, hn, hq⟩

theorem PostN.toX {X : V N → Loc N → Sto N → Prop} {x : Value} (h : PostN O c A env Φ T s X x s') : PostX O c A env Φ T s X x s' :=
  let ⟨T, ρ, σ, v, a, p, q, r, t, _, u, w, _, y⟩ := h; ⟨T, ρ, σ, v, p, q, r, t, u, w, y⟩
theorem PostN.ext {X : V N → Loc N → Sto N → Prop} {x : Value} (e : Ext T s T₁ s₁) (h : PostN O c A env Φ T₁ s₁ X x s') : PostN O c A env Φ T s X x s' :=
  let ⟨T, ρ, σ, v, a, p, q, r, t, u⟩ := h; ⟨T, ρ, σ, v, a, TM.le_trans e.1 p, q, r.trans e.2.1, t.trans e.2.2, u⟩
/-- a loop's own way out by an exception -/
theorem loop_raise {X : V N → Loc N → Sto N → Prop} {x : Value} (h : PostX O c A env Φ T s X x s') : notedBy M A env (cameBackBy M A env (PostX O c A env Φ T s X)) x s' :=
  noted_ok h fun _ h' => back_ok h' fun _ h'' => h''.toX
/-- and a statement's end within a try -/
theorem passOn_ok {α : Type} {what : String} {X : V N → Loc N → Sto N → Prop} {x : Value} {Q : α → Shared → Prop} {E : Value → Shared → Prop} (h : PostN O c A env Φ T s X x s') (k : ∀ s'', PostN O c A env Φ T s X x s'' → E x s'') : wpAny M A (PySem.passOn what x env : Sem α) Q E s' := by
  obtain ⟨T₁, ρ, σ, v, a, le, hA, hg, ho, rfl, hv, hx, hn, hq⟩ := h
  obtain ⟨a', cc, cf, d, e, ha⟩ := exc_of hv hx
  cases e
  obtain ⟨ob, vs, b, h1, h2, h3⟩ := hA.noted hn
  unfold PySem.passOn
  refine wpAny_bind (wpAny_field h1 h2 h3 ?_)
  rw [if_neg (by simp)]
  refine wpAny_bind (setFlight_ok hA ha fun s₂ e h₂ => wpAny_throw ?_)
  exact k s₂ ⟨T₁, ρ, σ, v, a, le, h₂, e.2.1.trans hg, e.2.2.trans ho, rfl, hv, hx, hn, hq⟩
/-- leaving a call -/
theorem leaving_ok {X : V N → Loc N → Sto N → Prop} {x : Value} {Q : Unit → Shared → Prop} {E : Value → Shared → Prop} (h : PostX O c A env Φ T s X x s') (k : ∀ s'', PostN O c A env Φ T s X x s'' → Q () s'') : wpAny M A (leaving env x) Q E s' := by
  obtain ⟨T₁, ρ, σ, v, le, hA, hg, ho, hv, hx, hq⟩ := h
  obtain ⟨a, cc, cf, d, rfl, ha⟩ := exc_of hv hx
  unfold leaving
  refine wpAny_bind (noteFrame_ok hA ha fun T₂ s₂ e h₂ hn => setFlight_ok h₂ (e.1 _ _ ha) fun s₃ e' h₃ => k s₃ ⟨T₂, ρ, σ, v, a, TM.le_trans le e.1, h₃, (e'.2.1.trans e.2.1).trans hg, (e'.2.2.trans e.2.2).trans ho, rfl, hv.mono e.1, hx, hn, hq⟩)
end
end Mine
namespace Mine
section
variable {N : Type} {O : Om} {c : Cx N} {ρ : Loc N} {σ : Sto N}

def ME.plain : ME → Bool
  | .not _ => false
  | .bop .. => false
  | .ite .. => false
  | .cmp .. => false
  | .bad => false
  | _ => true
def ME.isComp : ME → Bool
  | .comp .. => true
  | _ => false

theorem isTrue_of_plain {fc : FC} {e : PySem.Expr} {m : ME} {env : Env} {whole : Sem Value} (h : CE O fc e m) (hp : m.plain = true) : isTrue e env whole = (do let v ← whole; standAt e.pos; holding [v] (truthy v)) := by
  cases h <;> first | rfl | cases hp

theorem AT.val {m : ME} {Q : Bool → Sto N → Prop} {X : V N → Sto N → Prop} (hp : m.plain = true) (h : AE O c m ρ σ (fun v σ₁ => P1B O c truthy v ρ σ₁ Q X) X) : AT O c m ρ σ Q X := fun A env T Φ s e he hA =>
  wpAny_isTrue_value (kE (.refl _ _) (h A env T Φ s e he hA) fun T₁ σ₁ v a s₁ e₁ le₁ h₁ hv hq => endB e₁ (hq A env T₁ Φ s₁ a h₁ hv)) (isTrue_of_plain he hp)
theorem AT.ite {t a b : ME} {Q : Bool → Sto N → Prop} {X : V N → Sto N → Prop} (h : AT O c t ρ σ (fun r σ₁ => if r then AT O c a ρ σ₁ Q X else AT O c b ρ σ₁ Q X) X) : AT O c (.ite t a b) ρ σ Q X := fun A env T Φ s e he hA => by
  cases he with
  | ite ht ha hb =>
    refine isTrue_IfExp (kB (.refl _ _) (h A env T Φ s _ ht hA) fun T₁ σ₁ r s₁ e₁ le₁ h₁ hq => ?_)
    cases r with
    | true => exact endB e₁ (hq A env T₁ Φ s₁ _ ha h₁)
    | false => exact endB e₁ (hq A env T₁ Φ s₁ _ hb h₁)

/-! and, or in a test -/
def ATs (O : Om) (c : Cx N) (op : BoolOp) (ms : List ME) (ρ : Loc N) (σ : Sto N) (Q : Bool → Sto N → Prop) (X : V N → Sto N → Prop) : Prop := ∀ A env T Φ s es, CEs O c.fc es ms → At O c A env T Φ ρ σ s →
  wpAny (model O.prog O.w) A (allTrue op es env) (PostB O c A env Φ ρ T s Q) (PostY O c A env Φ ρ T s X) s
theorem PostB.mk' {A : Around} {env : Env} {Φ : Addr → Option Obj} {T T₁ : TM N} {s s' : Shared} {Q : Bool → Sto N → Prop} {b : Bool} (h : At O c A env T₁ Φ ρ σ s') (e : Ext T s T₁ s') (hq : Q b σ) : PostB O c A env Φ ρ T s Q b s' := ⟨T₁, σ, e.1, h, e.2.1, e.2.2, hq⟩
theorem ATs.and_nil {Q : Bool → Sto N → Prop} {X : V N → Sto N → Prop} (h : Q true σ) : ATs O c .And [] ρ σ Q X := fun A env T Φ s e he hA => by cases he; exact wpAny_allTrue_And_nil (.mk' hA (.refl _ _) h)
theorem ATs.or_nil {Q : Bool → Sto N → Prop} {X : V N → Sto N → Prop} (h : Q false σ) : ATs O c .Or [] ρ σ Q X := fun A env T Φ s e he hA => by cases he; exact wpAny_allTrue_Or_nil (.mk' hA (.refl _ _) h)
theorem ATs.and_cons {m : ME} {ms : List ME} {Q : Bool → Sto N → Prop} {X : V N → Sto N → Prop} (h : AT O c m ρ σ (fun b σ₁ => if b then ATs O c .And ms ρ σ₁ Q X else Q false σ₁) X) : ATs O c .And (m :: ms) ρ σ Q X := fun A env T Φ s e he hA => by
  cases he with
  | cons hm hs hr =>
    refine wpAny_allTrue_And_cons (kB (.refl _ _) (h A env T Φ s _ hm hA) fun T₁ σ₁ b s₁ e₁ le₁ h₁ hq => ?_)
    cases b with
    | true => exact endB e₁ (hq A env T₁ Φ s₁ _ hr h₁)
    | false => exact .mk' h₁ e₁ hq
theorem ATs.or_cons {m : ME} {ms : List ME} {Q : Bool → Sto N → Prop} {X : V N → Sto N → Prop} (h : AT O c m ρ σ (fun b σ₁ => if b then Q true σ₁ else ATs O c .Or ms ρ σ₁ Q X) X) : ATs O c .Or (m :: ms) ρ σ Q X := fun A env T Φ s e he hA => by
  cases he with
  | @cons _ e0 _ es _ hm hs hr =>
    show wpAny _ _ (do match BoolOp.Or, ← isTrue e0 env (eval e0 env) with | .And, false => pure false | .Or, true => pure true | _, _ => allTrue .Or es env) _ _ s
    refine wpAny_bind (kB (.refl _ _) (h A env T Φ s _ hm hA) fun T₁ σ₁ b s₁ e₁ le₁ h₁ hq => ?_)
    cases b with
    | true => exact wpAny_pure (.mk' h₁ e₁ hq)
    | false => exact endB e₁ (hq A env T₁ Φ s₁ _ hr h₁)
theorem AT.bop {op : BoolOp} {ms : List ME} {Q : Bool → Sto N → Prop} {X : V N → Sto N → Prop} (h : ATs O c op ms ρ σ Q X) : AT O c (.bop op ms) ρ σ Q X := fun A env T Φ s e he hA => by
  cases he with
  | bop hs => exact wpAny_isTrue_BoolOp (h A env T Φ s _ hs hA)
/-- a chain of two comparisons -/
theorem AT.cmp2 {o1 o2 : CmpOp} {a b d : ME} {Q : Bool → Sto N → Prop} {X : V N → Sto N → Prop}
    (h : AE O c a ρ σ (fun x σ₁ => AE O c b ρ σ₁ (fun y σ₂ => P2 O c (compareOp o1) x y ρ σ₂ (fun z σ₃ => P1B O c truthy z ρ σ₃ (fun r σ₄ => if r then AE O c d ρ σ₄ (fun w σ₅ => P2 O c (compareOp o2) y w ρ σ₅ (fun u σ₆ => P1B O c truthy u ρ σ₆ Q X) X) X else Q false σ₄) X) X) X) X) :
    AT O c (.cmp a [o1, o2] [b, d]) ρ σ Q X := fun A env T Φ s e he hA => by
  cases he with
  | cmp ha hbs hns =>
    cases hbs with
    | cons hb hst hr =>
      cases hr with
      | cons hd hst' hnil =>
        cases hnil
        have n1 := behind_plain (op := o1) fun l k q => hns _ (.head _) l k q
        have n2 := behind_plain (op := o2) fun l k q => hns _ (.tail _ (.head _)) l k q
        rename_i ea p eb ed
        have e2 : markedEach [o1, o2] [eb, ed] [eval eb env, eval ed env] = [eval eb env, eval ed env] := by
          show [eval eb env, markedBehindIn o2 ed (eval ed env)] = _
          rw [markedBehindIn_of_false n2]
        show wpAny _ _ (do testChain p (← eval ea env) [o1, o2] (markedEach [o1, o2] [eb, ed] [eval eb env, eval ed env])) _ _ s
        rw [e2]
        refine wpAny_bind (kE (.refl _ _) (h A env T Φ s _ ha hA) fun T₁ σ₁ x v s₁ e₁ le₁ h₁ hv hq => ?_)
        show wpAny _ _ (do
          let rv ← holding [v] (eval eb env)
          standAt p
          let c ← holding [v, rv] (compareOp o1 v rv)
          release [v, rv] [c]
          if ← holding [c, rv] (truthy c) then testChain p rv [o2] [eval ed env] else pure false) _ _ s₁
        refine wpAny_bind (wpAny_holding (kE e₁ (hq A env T₁ Φ s₁ _ hb h₁) fun T₂ σ₂ y u s₂ e₂ le₂ h₂ hu hq₂ => ?_))
        refine wpAny_bind (wpAny_standAt (wpAny_bind (wpAny_holding (kE e₂ (hq₂ A env T₂ Φ s₂ v u h₂ (hv.mono le₂) hu) fun T₃ σ₃ z w s₃ e₃ le₃ h₃ hw hq₃ => ?_))))
        refine wpAny_bind (wpAny_release (wpAny_bind (wpAny_holding (kB e₃ (hq₃ A env T₃ Φ s₃ w h₃ hw) fun T₄ σ₄ r s₄ e₄ le₄ h₄ hq₄ => ?_))))
        cases r with
        | false => exact wpAny_pure (.mk' h₄ e₄ hq₄)
        | true =>
          show wpAny _ _ (do
            let rv ← holding [u] (eval ed env)
            standAt p
            let c ← operate [u, rv] (compareOp o2 u rv)
            holding [c] (truthy c)) _ _ s₄
          refine wpAny_bind (wpAny_holding (kE e₄ (hq₄ A env T₄ Φ s₄ _ hd h₄) fun T₅ σ₅ w' u' s₅ e₅ le₅ h₅ hu' hq₅ => ?_))
          refine wpAny_bind (wpAny_standAt (wpAny_bind (wpAny_operateT (kE e₅ (hq₅ A env T₅ Φ s₅ u u' h₅ (((hu.mono le₃).mono le₄).mono le₅) hu') fun T₆ σ₆ z' w'' s₆ e₆ le₆ h₆ hw'' hq₆ => ?_))))
          exact wpAny_holding (endB e₆ (hq₆ A env T₆ Φ s₆ w'' h₆ hw''))
/-! and, or as values -/
theorem AE.bop1 {op : BoolOp} {m : ME} {Q X : V N → Sto N → Prop} (h : AE O c m ρ σ Q X) : AE O c (.bop op [m]) ρ σ Q X := fun A env T Φ s e he hA => by
  cases he with
  | bop hs =>
    cases hs with
    | cons hm _ hn => cases hn; rename_i e0 _; exact h A env T Φ s e0 hm hA
theorem AE.bop2 {op : BoolOp} {m m' : ME} {ms : List ME} {Q X : V N → Sto N → Prop} (h : AE O c m ρ σ (fun v σ₁ => P1B O c truthy v ρ σ₁ (fun r σ₂ => if (op == .And) = r then AE O c (.bop op (m' :: ms)) ρ σ₂ Q X else Q v σ₂) X) X) : AE O c (.bop op (m :: m' :: ms)) ρ σ Q X := fun A env T Φ s e he hA => by
  cases he with
  | bop hs =>
    cases hs with
    | cons hm _ hr =>
      cases hr with
      | @cons _ e1 _ es _ hm' hst hr' =>
        rename_i p e0 _
        show wpAny _ _ (do
          let v ← eval e0 env
          standAt p
          let t ← holding [v] (truthy v)
          match op, t with
          | .And, false | .Or, true => pure v
          | _, _ => boolOp p op (evalEach (e1 :: es) env)) _ _ s
        refine wpAny_bind (kE (.refl _ _) (h A env T Φ s _ hm hA) fun T₁ σ₁ v a s₁ e₁ le₁ h₁ hv hq => ?_)
        refine wpAny_bind (wpAny_standAt (wpAny_bind (wpAny_holding (kB e₁ (hq A env T₁ Φ s₁ a h₁ hv) fun T₂ σ₂ r s₂ e₂ le₂ h₂ hq₂ => ?_))))
        have rest : AE O c (.bop op (_ :: _)) ρ σ₂ Q X → wpAny (model O.prog O.w) A (boolOp p op (evalEach (e1 :: es) env)) (Post O c A env Φ ρ T s Q) (PostY O c A env Φ ρ T s X) s₂ := fun w =>
          endE (R' := Q) e₂ (w A env T₂ Φ s₂ (.BoolOp op (e1 :: es) p) (.bop (.cons hm' hst hr')) h₂)
        cases op <;> cases r <;> first | exact rest hq₂ | exact wpAny_pure (.mk' h₂ e₂ (hv.mono le₂) hq₂)
end

section
variable {N : Type} {O : Om} {c : Cx N} {ρ : Loc N} {σ : Sto N} {Q : AF N → Loc N → Sto N → Prop} {X : V N → Loc N → Sto N → Prop}

/-! statements -/
theorem AX.nil (h : Q .next ρ σ) : AX O c [] ρ σ Q X := fun A env T Φ s e he hA => by cases he; exact wpAny_execs_nil (.nx hA (.refl _ _) h)
theorem AX.cons {m : MS} {ms : List MS} (h : AS O c m ρ σ (fun f ρ₁ σ₁ => match f with | .next => AX O c ms ρ₁ σ₁ Q X | f => Q f ρ₁ σ₁) X) : AX O c (m :: ms) ρ σ Q X := fun A env T Φ s e he hA => by
  cases he with
  | cons hm hr =>
    refine wpAny_execs_cons (kF (.refl _ _) (h A env T Φ s _ hm hA) fun T₁ ρ₁ σ₁ v a s₁ e₁ le₁ h₁ hv hq => ?_)
    cases v with
    | next => cases hv; exact endF e₁ (hq A env T₁ Φ s₁ _ hr h₁)
    | brk => cases hv; exact .bk h₁ e₁ hq
    | cont => cases hv; exact .ct h₁ e₁ hq
    | ret v => obtain ⟨x, rfl, hx⟩ := hv; exact .rt h₁ e₁ hx hq

theorem notComp_of {fc : FC} {e : PySem.Expr} {m : ME} (h : CE O fc e m) (hm : m.isComp = false) : noComp e = true := by
  cases h <;> first | rfl | assumption | cases hm
theorem swaps_none {e : PySem.Expr} {n : Nat} {env : Env} (h : noComp e = true) {t : Option PySem.Expr} : swapsWith e t n env = pure false := by
  cases e <;> first | rfl | cases h
theorem notInter {A : Around} {env : Env} {T : TM N} {Φ : Addr → Option Obj} (x : EnvOk O c A env T Φ) : interactive env = false := by
  unfold interactive; rw [x.ekind]; rfl

theorem AS.expr {m : ME} (hm : m.isComp = false) (h : AE O c m ρ σ (fun _ σ₁ => Q .next ρ σ₁) (fun v σ₁ => X v ρ σ₁)) : AS O c (.expr m) ρ σ Q X := fun A env T Φ s e he hA => by
  cases he with
  | expr hm' _ => exact wpAny_Expr_any (kEF (.refl _ _) (h A env T Φ s _ hm' hA) fun T₁ σ₁ v a s₁ e₁ le₁ h₁ hv hq => .nx h₁ e₁ hq) (notInter hA.env) (swaps_none (notComp_of hm' hm))
theorem AS.ite {t : ME} {a b : List MS} (h : AT O c t ρ σ (fun r σ₁ => if r then AX O c a ρ σ₁ Q X else AX O c b ρ σ₁ Q X) (fun v σ₁ => X v ρ σ₁)) : AS O c (.ite t a b) ρ σ Q X := fun A env T Φ s e he hA => by
  cases he with
  | ite ht ha hb =>
    refine wpAny_If (kBF (.refl _ _) (h A env T Φ s _ ht hA) fun T₁ σ₁ r s₁ e₁ le₁ h₁ hq => ?_)
    cases r with
    | true => exact endF e₁ (hq A env T₁ Φ s₁ _ ha h₁)
    | false => exact endF e₁ (hq A env T₁ Φ s₁ _ hb h₁)
theorem AS.ret {m : ME} (h : AE O c m ρ σ (fun v σ₁ => Q (.ret v) ρ σ₁) (fun v σ₁ => X v ρ σ₁)) : AS O c (.ret (some m)) ρ σ Q X := fun A env T Φ s e he hA => by
  cases he with
  | ret hm => cases hm with
    | some hm => exact wpAny_Return_some (kEF (.refl _ _) (h A env T Φ s _ hm hA) fun T₁ σ₁ v a s₁ e₁ le₁ h₁ hv hq => .rt h₁ e₁ hv hq)
theorem AS.ret0 (h : Q (.ret .none) ρ σ) : AS O c (.ret Option.none) ρ σ Q X := fun A env T Φ s e he hA => by
  cases he with
  | ret hm => cases hm; exact wpAny_Return_none (.rt hA (.refl _ _) (v := .none) (by unfold VRep; rfl) h)
theorem AS.pass (h : Q .next ρ σ) : AS O c .pass ρ σ Q X := fun A env T Φ s e he hA => by cases he; exact wpAny_Pass (.nx hA (.refl _ _) h)
theorem AS.brk (h : Q .brk ρ σ) : AS O c .brk ρ σ Q X := fun A env T Φ s e he hA => by cases he; exact wpAny_Break (.bk hA (.refl _ _) h)
theorem AS.cont (h : Q .cont ρ σ) : AS O c .cont ρ σ Q X := fun A env T Φ s e he hA => by cases he; exact wpAny_Continue (.ct hA (.refl _ _) h)

theorem AS.while {t : ME} {a : List MS} (I : Nat → Loc N → Sto N → Prop)
    (turn : ∀ n ρ σ, I n ρ σ → AT O c t ρ σ (fun r σ₁ => if r then AX O c a ρ σ₁ (fun f ρ₂ σ₂ => match f with | .next => ∃ m, m < n ∧ I m ρ₂ σ₂ | .cont => ∃ m, m < n ∧ I m ρ₂ σ₂ | .brk => Q .next ρ₂ σ₂ | .ret v => Q (.ret v) ρ₂ σ₂) X else Q .next ρ σ₁) (fun v σ₁ => X v ρ σ₁))
    (n : Nat) (h : I n ρ σ) : AS O c (.while t a) ρ σ Q X := fun A env T Φ s e he hA => by
  cases he with
  | «while» ht ha =>
    refine wpAny_While (codeAny_whileLoop (fun n s' => ∃ T' ρ' σ', Ext T s T' s' ∧ At O c A env T' Φ ρ' σ' s' ∧ I n ρ' σ') ?_ n ⟨T, ρ, σ, .refl _ _, hA, h⟩)
    rintro n s' ⟨T', ρ', σ', ex, hA', hI⟩
    refine wpAny_mono (turn n ρ' σ' hI A env T' Φ s' _ ht hA') (fun b s₂ hb => ?_) fun x s₂ hx => loop_raise (hx.toX.ext ex)
    obtain ⟨T₂, σ₂, le₂, h₂, hg, ho, hq⟩ := hb
    have e₂ : Ext T s T₂ s₂ := ex.trans ⟨le₂, hg, ho⟩
    cases b with
    | false => exact wpAny_execs_nil (.nx h₂ e₂ hq)
    | true =>
      refine wpAny_mono (hq A env T₂ Φ s₂ _ ha h₂) (fun f s₃ hf => ?_) fun x s₃ hx => loop_raise (hx.ext e₂)
      obtain ⟨T₃, ρ₃, σ₃, af, le₃, h₃, hg₃, ho₃, hr, hq₃⟩ := hf
      have e₃ : Ext T s T₃ s₃ := e₂.trans ⟨le₃, hg₃, ho₃⟩
      cases af with
      | next => cases hr; obtain ⟨m, hm, hI'⟩ := hq₃; exact ⟨m, hm, T₃, ρ₃, σ₃, e₃, h₃, hI'⟩
      | cont => cases hr; obtain ⟨m, hm, hI'⟩ := hq₃; exact ⟨m, hm, T₃, ρ₃, σ₃, e₃, h₃, hI'⟩
      | brk => cases hr; exact .nx h₃ e₃ hq₃
      | ret v => obtain ⟨x, rfl, hx⟩ := hr; exact .rt h₃ e₃ hx hq₃

/-! storing -/
theorem At.store {A : Around} {env : Env} {T : TM N} {Φ : Addr → Option Obj} {s : Shared} {h' : Heap} {tk : Nat} {i : Nat} {x : Str} {v : V N} {a : Value} {m : Str → Option Value} (h : At O c A env T Φ ρ σ s) (hi : c.fc.at i x .local) (hv : VRep O T v a)
    (hm : ∀ i v, ρ i = some v → ∃ x val, c.fc.at i x .local ∧ m x = some val ∧ VRep O T v val)
    (hn : h'.Ns env.locals (fun y => if y = x then some a else m y)) (hs : Heap.SameBut env.locals s.heap h') : At O c A env T Φ (ρ.upd i v) σ { s with heap := h', toks := tk } := by
  refine ⟨h.rep.sameBut hs h.fr.fresh h.fr.off, ⟨h.fr.fresh, h.fr.off, _, hn, fun j w e => ?_⟩, h.env⟩
  by_cases q : j = i
  · subst q
    have : w = v := by simpa [Loc.upd] using e.symm
    subst this
    exact ⟨x, a, hi, by simp, hv⟩
  · rw [Loc.upd, if_neg q] at e
    obtain ⟨y, val, hy, hmy, hr⟩ := hm j w e
    refine ⟨y, val, hy, ?_, hr⟩
    show (if y = x then some a else m y) = some val
    rw [if_neg fun z => q (nodup_at h.env.nodup hy (z ▸ hi))]; exact hmy
theorem notClass {A : Around} {env : Env} {T : TM N} {Φ : Addr → Option Obj} (x : EnvOk O c A env T Φ) : (env.scope.kind == .class || (env.scope.kind == .module && env.locals != env.globals)) = false := by rw [x.ekind]; rfl

theorem ATg.loc {i : Nat} {v : V N} {Q : Loc N → Sto N → Prop} (h : Q (ρ.upd i v) σ) : ATg O c (.loc i) v ρ σ Q X := fun A env T Φ s e a he hA hv => by
  cases he with
  | loc hi =>
    obtain ⟨m, hm, hall⟩ := hA.fr.ns
    exact wpAny_assign_Name (wpAny_storeName_local (hA.env.kindOf hi) hm (fun h' hn hs => .nx (hA.store hi hv hall hn hs) ⟨TM.le_refl _, rfl, rfl⟩ h) (notClass hA.env))
theorem ATg.cel {i : Nat} {n : N} {v : V N} {v₀ : Option (V N)} {Q : Loc N → Sto N → Prop} (hκ : c.κ i = some (.cel n)) (hσ : σ n = some (.cell v₀)) (h : Q ρ (σ.set n (.cell (some v)))) : ATg O c (.cel i) v ρ σ Q X := fun A env T Φ s e a he hA hv => by
  cases he with
  | cel hi =>
    obtain ⟨x, k, b, hx, hk, hl, hok⟩ := hA.env.cells i _ hκ
    obtain ⟨rfl, _⟩ := at_inj hx hi
    rcases hok with ⟨n', e, ht⟩ | ⟨_, _, hz, _⟩
    · cases e
      obtain ⟨ob, hob, o, ho, hr⟩ := hA.rep.trk b _ ht
      rw [hσ] at ho; cases ho
      have hc : ∃ u, s.heap.IsCell b u := by
        cases v₀ with
        | none => exact ⟨_, ob, hob, hr⟩
        | some w => obtain ⟨y, e, _⟩ := hr; exact ⟨_, ob, hob, e⟩
      obtain ⟨u, hc⟩ := hc
      refine wpAny_assign_Name (wpAny_storeName_cell hA.env.ekind (hA.env.kindOf hi) hl hc fun h' hc' hs => ?_)
      obtain ⟨o', ho', hd'⟩ := hc'
      exact .nx (hA.upd (s' := { s with heap := h' }) (o' := .cell (some v)) ht hσ rfl rfl hs ho' ⟨a, hd', hv⟩) ⟨TM.le_refl _, rfl, rfl⟩ h
    · cases hz
theorem ATg.attr {m : ME} {x : Str} {v : V N} {Q : Loc N → Sto N → Prop} (h : AE O c m ρ σ (fun o σ₁ => P2U O c (fun o v => setAttr o x v) o v ρ σ₁ (fun σ₂ => Q ρ σ₂) (fun v σ₂ => X v ρ σ₂)) (fun v σ₂ => X v ρ σ₂)) : ATg O c (.attr m x) v ρ σ Q X := fun A env T Φ s e a he hA hv => by
  cases he with
  | attr hm =>
    rename_i e0 p
    show wpAny _ _ (do
      let ov ← holding [a] (eval e0 env)
      standAt p.atName
      holding [a, ov] (setAttr ov x a)
      release [a, ov] []) _ _ s
    refine wpAny_bind (wpAny_holding (kEF (.refl _ _) (h A env T Φ s _ hm hA) fun T₁ σ₁ o b s₁ e₁ le₁ h₁ ho hq => ?_))
    refine wpAny_bind (wpAny_standAt (wpAny_bind (wpAny_holding (kUF e₁ (hq A env T₁ Φ s₁ b a h₁ ho (hv.mono le₁)) fun T₂ σ₂ s₂ e₂ le₂ h₂ hq₂ => ?_))))
    exact wpAny_release (.nx h₂ e₂ hq₂)
theorem ATg.sub {m i : ME} {v : V N} {Q : Loc N → Sto N → Prop} (h : AE O c m ρ σ (fun o σ₁ => AE O c i ρ σ₁ (fun j σ₂ => P3U O c setItem o j v ρ σ₂ (fun σ₃ => Q ρ σ₃) (fun v σ₃ => X v ρ σ₃)) (fun v σ₂ => X v ρ σ₂)) (fun v σ₂ => X v ρ σ₂)) : ATg O c (.sub m i) v ρ σ Q X := fun A env T Φ s e a he hA hv => by
  cases he with
  | sub hm hi =>
    rename_i e0 e1 p
    rw [assign]
    refine wpAny_bind (wpAny_holding (kEF (.refl _ _) (h A env T Φ s _ hm hA) fun T₁ σ₁ o b s₁ e₁ le₁ h₁ ho hq => ?_))
    refine wpAny_bind (wpAny_holding (kEF e₁ (hq A env T₁ Φ s₁ _ hi h₁) fun T₂ σ₂ j d s₂ e₂ le₂ h₂ hj hq₂ => ?_))
    refine wpAny_bind (wpAny_standAt (wpAny_bind (wpAny_holding (kUF e₂ (hq₂ A env T₂ Φ s₂ b d a h₂ (ho.mono le₂) hj ((hv.mono le₁).mono le₂)) fun T₃ σ₃ s₃ e₃ le₃ h₃ hq₃ => ?_))))
    exact wpAny_release (.nx h₃ e₃ hq₃)

/-! assignments -/
theorem swapped_none {fc : FC} {env : Env} {t : PySem.Expr} {e : PySem.Expr} (h : ∀ es k p, e ≠ .Tuple es k p) : swappedStores [t] e env = pure Option.none := by
  unfold swappedStores
  cases t <;> first | rfl | (cases e <;> first | rfl | exact absurd rfl (h _ _ _))
def ME.isTup : ME → Bool
  | .tup _ => true
  | .bad => true
  | _ => false
theorem notTup_of {fc : FC} {e : PySem.Expr} {m : ME} (h : CE O fc e m) (hm : m.isTup = false) : ∀ es k p, e ≠ .Tuple es k p := by
  intro es k p q; subst q; cases h <;> cases hm
def MT.isTup : MT → Bool
  | .tup _ => true
  | .bad => true
  | _ => false
theorem swapped_none' {fc : FC} {env : Env} {t : PySem.Expr} {mt : MT} {e : PySem.Expr} (h : CT O fc t mt) (hm : mt.isTup = false) : swappedStores [t] e env = pure Option.none := by
  cases h <;> first | rfl | cases hm

theorem AS.asgG {t : MT} {m : ME} (hm : m.isComp = false) (ht : t.isTup = false ∨ m.isTup = false) (h : AE O c m ρ σ (fun v σ₁ => ATg O c t v ρ σ₁ (fun ρ₂ σ₂ => Q .next ρ₂ σ₂) X) (fun v σ₁ => X v ρ σ₁)) : AS O c (.asg [t] m) ρ σ Q X := fun A env T Φ s e he hA => by
  cases he with
  | asg hts hm' =>
    cases hts with
    | cons ht' hst hn =>
      cases hn
      rename_i e0 p t0
      refine wpAny_Assign_stores (kEF (.refl _ _) (h A env T Φ s _ hm' hA) fun T₁ σ₁ v a s₁ e₁ le₁ h₁ hv hq => ?_) (by
        show swapsWithSole [t0] e0 p.line env = pure false
        exact swaps_none (notComp_of hm' hm)) (by
        rcases ht with q | q
        · exact swapped_none' ht' q
        · exact swapped_none (fc := c.fc) (notTup_of hm' q))
      have e1 : (assignEach [t0] env).map (·.2) = [assign t0 env] := by
        cases t0 <;> first | rfl | exact absurd rfl (hst _ _)
      rw [e1]
      exact wpAny_mono (hq A env T₁ Φ s₁ _ a ht' h₁ hv) (fun _ s₂ h₂ => (h₂.nexts fun _ _ x => x).ext e₁) fun _ _ x => x.ext e₁
theorem AS.asg {t : MT} {m : ME} (h : AE O c m ρ σ (fun v σ₁ => ATg O c t v ρ σ₁ (fun ρ₂ σ₂ => Q .next ρ₂ σ₂) X) (fun v σ₁ => X v ρ σ₁)) (hm : m.isComp = false := by rfl) (ht : t.isTup = false := by rfl) : AS O c (.asg [t] m) ρ σ Q X := .asgG hm (.inl ht) h
theorem AS.asgT {t : MT} {m : ME} (h : AE O c m ρ σ (fun v σ₁ => ATg O c t v ρ σ₁ (fun ρ₂ σ₂ => Q .next ρ₂ σ₂) X) (fun v σ₁ => X v ρ σ₁)) (hm : m.isComp = false := by rfl) (ht : m.isTup = false := by rfl) : AS O c (.asg [t] m) ρ σ Q X := .asgG hm (.inr ht) h
theorem AS.asg2 {t t' : MT} {m : ME} (h : AE O c m ρ σ (fun v σ₁ => ATg O c t v ρ σ₁ (fun ρ₂ σ₂ => ATg O c t' v ρ₂ σ₂ (fun ρ₃ σ₃ => Q .next ρ₃ σ₃) X) X) (fun v σ₁ => X v ρ σ₁)) : AS O c (.asg [t, t'] m) ρ σ Q X := fun A env T Φ s e he hA => by
  cases he with
  | asg hts hm' =>
    cases hts with
    | cons ht₁ hs₁ hr =>
      cases hr with
      | cons ht₂ hs₂ hn =>
        cases hn
        rename_i e0 p t1 t2
        refine wpAny_Assign_two (kEF (.refl _ _) (h A env T Φ s _ hm' hA) fun T₁ σ₁ v a s₁ e₁ le₁ h₁ hv hq => ?_) (by cases t1 <;> cases t2 <;> first | rfl | exact absurd rfl (hs₁ _ _) | exact absurd rfl (hs₂ _ _)) (by cases t1 <;> rfl)
        refine wpAny_mono (hq A env T₁ Φ s₁ _ a ht₁ h₁ hv) (fun _ s₂ h₂ => ?_) fun _ _ x => x.ext e₁
        obtain ⟨T₂, ρ₂, σ₂, af, le₂, h₂, hg, ho, hr, hq₂⟩ := h₂
        have e₂ := e₁.trans ⟨le₂, hg, ho⟩
        exact wpAny_mono (hq₂ A env T₂ Φ s₂ _ a ht₂ h₂ (hv.mono le₂)) (fun _ s₃ h₃ => (h₃.nexts fun _ _ x => x).ext e₂) fun _ _ x => x.ext e₂
end
end Mine
namespace Mine

def fget {α : Type} : List Str → List α → Str → Option α
  | n :: ns, v :: vs, x => if n = x then some v else fget ns vs x
  | _, _, _ => none
def fputN : List Str → Str → List Str
  | [], x => [x]
  | n :: ns, x => if n = x then n :: ns else n :: fputN ns x
def fputV {α : Type} : List Str → List α → Str → α → List α
  | n :: ns, v :: vs, x, u => if n = x then u :: vs else v :: fputV ns vs x u
  | _, _, _, u => [u]

theorem fputN_len : ∀ (ns : List Str) (x : Str), (fputN ns x).length ≤ ns.length + 1
  | [], x => by simp [fputN]
  | m :: r, x => by have := fputN_len r x; unfold fputN; split <;> simp <;> omega
section
variable {N : Type} {O : Om} {T : TM N}
theorem KeysAre.get {P : Params} {x : Str} : ∀ {ns : List Str} {vs : List (V N)} {es : List DictEntry}, KeysAre P ns es → VReps O T vs (es.map (·.val)) →
    (∀ v, fget ns vs x = some v → ∃ a, getL x es = some (some a) ∧ VRep O T v a) ∧ (fget ns vs x = none → getL x es = some none) ∧ es.any (·.refKey) = false
  | [], vs, es, hk, hv => by
    unfold KeysAre at hk; subst hk
    exact ⟨fun v e => by simp [fget] at e, fun _ => rfl, rfl⟩
  | n :: ns, vs, es, hk, hv => by
    unfold KeysAre at hk
    obtain ⟨e, r, rfl, ⟨t, hkey⟩, hh, hr⟩ := hk
    cases vs with
    | nil => have := hv.nil_inv; simp at this
    | cons v vs =>
      obtain ⟨a, as, ha, hva, hvs⟩ := hv.cons_inv
      rw [List.map_cons] at ha
      cases ha
      obtain ⟨i1, i2, i3⟩ := KeysAre.get (x := x) hr hvs
      have hrk : e.refKey = false := by unfold DictEntry.refKey; rw [hkey]
      have hany : (e :: r).any (·.refKey) = false := by rw [List.any_cons, hrk, i3]; rfl
      refine ⟨fun w hw => ?_, fun hw => ?_, hany⟩
      · by_cases q : n = x
        · subst q
          rw [fget, if_pos rfl] at hw; cases hw
          refine ⟨e.val, ?_, hva⟩
          unfold getL
          rw [List.find?_cons, hkey]
          simp [Value.isStr]
        · rw [fget, if_neg q] at hw
          obtain ⟨b, hb, hvb⟩ := i1 w hw
          refine ⟨b, ?_, hvb⟩
          unfold getL at hb ⊢
          rw [List.find?_cons, hkey]
          simp only [Value.isStr, beq_eq_false_iff_ne.mpr q]
          rw [hany]
          rw [i3] at hb
          exact hb
      · by_cases q : n = x
        · rw [fget, if_pos q] at hw; cases hw
        · rw [fget, if_neg q] at hw
          have hb := i2 hw
          unfold getL at hb ⊢
          rw [List.find?_cons, hkey]
          simp only [Value.isStr, beq_eq_false_iff_ne.mpr q]
          rw [hany]
          rw [i3] at hb
          exact hb

theorem KeysAre.length {P : Params} : ∀ {ns : List Str} {es : List DictEntry}, KeysAre P ns es → es.length = ns.length
  | [], es, hk => by unfold KeysAre at hk; subst hk; rfl
  | n :: ns, es, hk => by unfold KeysAre at hk; obtain ⟨e, r, rfl, _, _, hr⟩ := hk; simp [KeysAre.length hr]
theorem KeysAre.put {P : Params} {x : Str} {u : V N} {b : Value} {tk : Tok} (hb : VRep O T u b) : ∀ {ns : List Str} {vs : List (V N)} {es : List DictEntry}, KeysAre P ns es → VReps O T vs (es.map (·.val)) →
    KeysAre P (fputN ns x) (putL x (PyData.keyHash P x) (.str x tk) b es) ∧ VReps O T (fputV ns vs x u) ((putL x (PyData.keyHash P x) (.str x tk) b es).map (·.val))
  | [], vs, es, hk, hv => by
    unfold KeysAre at hk; subst hk
    cases vs with
    | nil => exact ⟨by unfold fputN putL KeysAre; exact ⟨_, _, rfl, ⟨tk, rfl⟩, rfl, by unfold KeysAre; rfl⟩, .cons hb .nil⟩
    | cons v vs => obtain ⟨_, _, h, _⟩ := hv.cons_inv; cases h
  | n :: ns, vs, es, hk, hv => by
    unfold KeysAre at hk
    obtain ⟨e, r, rfl, ⟨t, hkey⟩, hh, hr⟩ := hk
    cases vs with
    | nil => have := hv.nil_inv; simp at this
    | cons v vs =>
      obtain ⟨a, as, ha, hva, hvs⟩ := hv.cons_inv
      rw [List.map_cons] at ha
      cases ha
      by_cases q : n = x
      · subst q
        rw [fputN, if_pos rfl, fputV, if_pos rfl, putL, hkey]
        simp only [Value.isStr, beq_self_eq_true, if_true]
        exact ⟨by unfold KeysAre; exact ⟨_, _, rfl, ⟨t, rfl⟩, hh, hr⟩, .cons hb hvs⟩
      · obtain ⟨i1, i2⟩ := KeysAre.put (x := x) (tk := tk) hb hr hvs
        rw [fputN, if_neg q, fputV, if_neg q, putL, hkey]
        simp only [Value.isStr, beq_eq_false_iff_ne.mpr q, Bool.false_eq_true, if_false]
        exact ⟨by unfold KeysAre; exact ⟨_, _, rfl, ⟨t, hkey⟩, hh, i1⟩, .cons hva i2⟩

/-- a class of the text, with no ways of its own to read and to store -/
structure ClsOk (O : Om) (C : Addr) : Prop where
  ga : findIn O.K (.ref C) "__getattribute__" = some (some (.builtin "object.__getattribute__"))
  gn : findIn O.K (.ref C) "__getattr__" = some none
  sa : findIn O.K (.ref C) "__setattr__" = some (some (.builtin "object.__setattr__"))
  over : plainOver O.K C = true
  dict : hasDictIn O.K C = true
/-- the class has nothing of the name that stores or is asked first -/
structure AttrOk (O : Om) (C : Addr) (x : Str) : Prop where
  at' : ∃ r, findIn O.K (.ref C) x = some r ∧ noGet O.K r = true ∧ takerIn O.K C x = some none

section
variable {c : Cx N} {A : Around} {env : Env} {Φ : Addr → Option Obj} {ρ : Loc N} {σ : Sto N} {s : Shared}
theorem inst_at {n : N} {C : Addr} {ns : List Str} {vs : List (V N)} {a : Value} (hA : At O c A env T Φ ρ σ s) (hv : VRep O T (.ref n) a) (hσ : σ n = some (.inst C ns vs)) :
    ∃ x d es k, a = .ref x ∧ T x = some (.own n) ∧ T d = some (.part n) ∧ s.heap.get? x = some (instObj C d) ∧ s.heap.get? d = some (dictOf es k) ∧ KeysAre O.w.params ns es ∧ VReps O T vs (es.map (·.val)) ∧ InstAt s.heap x (instObj C d) C (some (dictOf es k)) := by
  unfold VRep at hv
  obtain ⟨x, rfl, hx⟩ := hv
  obtain ⟨ob, hob, o, ho, hr⟩ := hA.rep.trk x _ hx
  rw [hσ] at ho; cases ho
  obtain ⟨d, rfl, hd⟩ := hr
  obtain ⟨ob', hob', C', ns', vs', es, k, h1, rfl, h2, h3⟩ := hA.rep.trk d _ hd
  rw [hσ] at h1; cases h1
  exact ⟨x, d, es, k, rfl, hx, hd, hob, hob', h2, h3, ⟨hob, rfl, rfl, hob'⟩⟩

variable {Q X : V N → Sto N → Prop}
/-- values that an attribute hands on as they are -/
def Plain (v : V N) : Prop := ∀ O : Om, ∀ T : TM N, ∀ a, VRep O T v a → handedIn a = true
theorem handed_of {v : V N} {a : Value} (h : VRep O T v a) (hs : ∀ u, v = .st u → handedIn u = true) : handedIn a = true := by
  cases v <;> unfold VRep at h
  case none => subst h; rfl
  case bool => subst h; rfl
  case int => obtain ⟨t, rfl⟩ := h; rfl
  case str => obtain ⟨t, rfl⟩ := h; rfl
  case st => subst h; exact hs _ rfl
  case tup => obtain ⟨a, _, _, rfl, _⟩ := h; rfl
  case lst => obtain ⟨a, _, _, rfl, _⟩ := h; rfl
  case dct => obtain ⟨a, _, _, rfl, _⟩ := h; rfl
  case rng => obtain ⟨a, _, _, _, rfl, _⟩ := h; rfl
  case ref => obtain ⟨a, rfl, _⟩ := h; rfl
  case cel => obtain ⟨a, rfl, _⟩ := h; rfl
  case clo => obtain ⟨a, _, _, _, _, _, _, rfl, _⟩ := h; rfl
  case meth => obtain ⟨a, _, _, rfl, _⟩ := h; rfl
  case exc => obtain ⟨a, rfl, _⟩ := h; rfl
def V.hands : V N → Bool
  | .st u => handedIn u
  | _ => true

/-- an instance's own attribute -/
theorem P1.get {n : N} {C : Addr} {ns : List Str} {vs : List (V N)} {x : Str} {v : V N} {e : Bool} (ok : O.Ok) (hc : ClsOk O C) (hσ : σ n = some (.inst C ns vs)) (ha : AttrOk O C x) (hg : fget ns vs x = some v) (hh : v.hands = true) (h : Q v σ) :
    P1 O c (fun o => getAttr o x e) (.ref n) ρ σ Q X := fun A env T Φ s a hA hv => by
  obtain ⟨b, d, es, k, rfl, hx, hd, h1, h2, h3, h4, I⟩ := inst_at hA hv hσ
  obtain ⟨r, hr, hn, _⟩ := ha.at'
  obtain ⟨u, hu, hvu⟩ := (KeysAre.get (x := x) h3 h4).1 v hg
  refine get_value (hA.K ok) I hc.ga (findObj_own hc.dict hr hn ((lookIn_dict x es k).trans hu)) (handed_of hvu fun w q => ?_) (.mk' (hA.toks _) (.refl _ _) hvu h)
  subst q; exact hh
/-- an attribute that stands in the class: a plain value -/
theorem P1.getC {n : N} {C : Addr} {ns : List Str} {vs : List (V N)} {x : Str} {u : Value} {v : V N} {e : Bool} (ok : O.Ok) (hc : ClsOk O C) (hσ : σ n = some (.inst C ns vs)) (hf : findIn O.K (.ref C) x = some (some u)) (hgt : specialIn O.K u "__get__" = some none) (hh : handedIn u = true)
    (hcn : copiedNames.contains x = false) (hg : fget ns vs x = none) (hu : ∀ T, VRep O T v u) (h : Q v σ) :
    P1 O c (fun o => getAttr o x e) (.ref n) ρ σ Q X := fun A env T Φ s a hA hv => by
  obtain ⟨b, d, es, k, rfl, hx, hd, h1, h2, h3, h4, I⟩ := inst_at hA hv hσ
  obtain ⟨cd, hcd, hdd⟩ := any_some hc.dict
  refine get_value (hA.K ok) I hc.ga ?_ hh (.mk' (hA.toks _) (.refl _ _) (hu T) h)
  unfold findObj
  rw [hcd, Option.bind_some, hf, Option.bind_some]
  dsimp only
  rw [hgt, Option.bind_some]
  dsimp only
  rw [Option.bind_some]
  unfold PySem.W.ownOf
  rw [if_pos hdd]
  dsimp only
  rw [lookIn_dict, (KeysAre.get (x := x) h3 h4).2.1 hg, Option.bind_some]
  dsimp only
  rw [hcn, Bool.false_and, if_neg (by decide), if_pos hh]

/-- storing an attribute -/
theorem P2U.set {n : N} {C : Addr} {ns : List Str} {vs : List (V N)} {x : Str} {v : V N} {Q : Sto N → Prop} (ok : O.Ok) (hc : ClsOk O C) (hσ : σ n = some (.inst C ns vs)) (ha : AttrOk O C x) (hz : ns.length ≤ 900) (h : Q (σ.set n (.inst C (fputN ns x) (fputV ns vs x v)))) :
    P2U O c (fun o v => setAttr o x v) (.ref n) v ρ σ Q X := fun A env T Φ s a b hA hv hb => by
  obtain ⟨y, d, es, k, rfl, hx, hd, h1, h2, h3, h4, I⟩ := inst_at hA hv hσ
  obtain ⟨r, hr, hn, ht⟩ := ha.at'
  have X' := hA.K ok
  refine set_plain X' I hc.sa (osa_open (s := { s with toks := s.toks + 1 }) X' I hc.over ht fun bo => ?_)
  obtain ⟨cd, hcd, hdd⟩ := any_some hc.dict
  obtain ⟨q1, q2⟩ := KeysAre.put (x := x) (tk := s.toks + 1) hb h3 h4
  have hD : s.heap.get? d = some (dictOf es k) := h2
  refine wpAny_bind (wpAny_pure (wpAny_bind (wpAny_bind (wpAny_loadPart (s := { s with toks := s.toks + 1 }) h1 (wpAny_bind ((looks_clsIn X' hcd : Looks (model O.prog O.w) s.heap _ _) A.in1 _ _ { s with toks := s.toks + 1 } (fun _ _ e => e) ?_))))))
  rw [hdd]
  refine wpAny_pure (a := some d) (wpAny_bind (wpAny_pure (wpAny_bind ?_)))
  unfold nsSet
  refine wpAny_bind (wpAny_bind (wpAny_askSetting (wpAny_pure (wpAny_bind (wpAny_mkText (wpAny_bind (wpAny_loadPart (s := { s with toks := s.toks + 2 }) hD ?_)))))))
  dsimp only
  have hany : es.toArray.any (·.refKey) = false := by rw [← Array.any_toList]; exact (KeysAre.get (x := x) h3 h4).2.2
  rw [aRefKeyMayBeTheName_at, hany, Bool.and_false]
  refine wpAny_updatePart (s := { s with toks := s.toks + 2 }) hD ?_
  have hself := Heap.get?_update_self (Obj.putName x (PyData.keyHash O.w.params x) (.str x (s.toks + 1)) b) hD (by rw [putName_dict]; rfl)
  rw [putName_dict] at hself
  refine wpAny_bind (wpAny_lookBehind (s := { s with toks := s.toks + 2, heap := s.heap.update d _ }) hself ?_ ?_)
  · refine pastItsLine_dict ?_
    have := q1.length
    have hl := fputN_len ns x
    rw [List.size_toArray, this, sizeLine_eq]; omega
  · exact wpAny_pure ⟨T, _, TM.le_refl _, hA.updI (s' := { s with toks := s.toks + 2, heap := _ }) hd hσ (Heap.SameBut.update ..) hself q1 q2, rfl, rfl, h⟩
end
end
end Mine
namespace Mine
section
variable {M : Model} {A : Around} {E : Value → Shared → Prop} {s : Shared} {Q : Value → Shared → Prop}
theorem callMarked_ok {mk f : Value} {pos : List Value} {kw : List (Str × Value)} (h : wpAny M A (call f pos kw) Q E s) : wpAny M A (callMarked mk f pos kw) Q E s := fun Γ p hΓ => by
  unfold callMarked; rw [Sem.wp_keep]; exact h Γ p hΓ

theorem callWith_ok {pos : Pos} {f : Value} {first : List Value} {args : List (Bool × Sem Value)} {keywords : List (Option Str × Sem Value)}
    (h : wpAny M A (evalArgs f true args keywords) (fun a s₁ => (∀ R : Keeper → Shared → Prop, (∀ k, R k s₁) → wpAny M A (keeperOf f) R E s₁) ∧ wpAny M A (call f (first ++ a.pos) a.kw) Q E s₁) E s) :
    wpAny M A (callWith pos f first args keywords) Q E s := by
  unfold callWith
  refine wpAny_bind (wpAny_holding (wpAny_mono h (fun a s₁ h₁ => wpAny_bind (wpAny_standAt ?_)) fun _ _ x => x))
  obtain ⟨hk, hc⟩ := h₁
  have tail : ∀ {t : Sem Value}, wpAny M A t Q E s₁ → wpAny M A (t >>= fun r => holding [r] point >>= fun _ => pure r) Q E s₁ :=
    fun ht => wpAny_bind (wpAny_mono ht (fun r s₂ hr => wpAny_bind (wpAny_holding (wpAny_point (wpAny_pure hr)))) fun _ _ x => x)
  refine wpAny_bind (hk _ fun k => ?_)
  have op : ∀ {l : List Value}, wpAny M A (operate l (call f (first ++ a.pos) a.kw)) Q E s₁ := fun {l} => by
    unfold operate
    exact wpAny_bind (wpAny_holding (wpAny_mono hc (fun r s₂ hr => wpAny_bind (wpAny_release (wpAny_pure hr))) fun _ _ x => x))
  cases k <;> cases (args.any (·.1) || keywords.any (·.1.isNone)) <;> dsimp only <;> first
    | exact tail hc
    | exact tail (callMarked_ok hc)
    | exact tail op
    | (split <;> first | exact tail hc | exact tail (callMarked_ok hc))

theorem wpAny_of_spliced_nil {α : Type} {f : List Value → Sem α} {R : List Value → α → Shared → Prop} (h : wpAny M A (spliced []) (fun vs s₁ => wpAny M A (f vs) (R vs) E s₁) E s) : wpAny M A (f []) (R []) E s := fun Γ p hΓ => h Γ p hΓ Γ p hΓ
theorem evalArgs_ok {f : Value} {args : List (Bool × Sem Value)} {keywords : List (Option Str × Sem Value)} {Q : Args → Shared → Prop} (hst : ∀ x ∈ args, x.1 = false) (hkw : keywords.all (·.1.isSome) = true)
    (h : wpAny M A (spliced args) (fun vs s₁ => wpAny M A (evalAll (keywords.map (·.2))) (fun ks s₂ => Q ⟨vs, (keywords.filterMap (·.1)).zip ks⟩ s₂) E s₁) E s) : wpAny M A (evalArgs f true args keywords) Q E s := by
  cases args with
  | nil =>
    exact evalArgs_kw_nil hkw (wpAny_of_spliced_nil (f := fun _ => evalAll (keywords.map (·.2))) (R := fun vs ks s₂ => Q ⟨vs, (keywords.filterMap (·.1)).zip ks⟩ s₂) h)
  | cons x rest =>
    obtain ⟨b, t⟩ := x
    have : b = false := hst _ (.head _)
    subst this
    exact evalArgs_kw hkw h
end

section
variable {N : Type} {O : Om} {c : Cx N} {ρ : Loc N} {σ : Sto N}

/-- written items one after another -/
def AEl (O : Om) (c : Cx N) (ms : List ME) (ρ : Loc N) (σ : Sto N) (Q : List (V N) → Sto N → Prop) (X : V N → Sto N → Prop) : Prop := match ms with
  | [] => Q [] σ
  | m :: ms => AE O c m ρ σ (fun v σ₁ => AEl O c ms ρ σ₁ (fun vs σ₂ => Q (v :: vs) σ₂) X) X

theorem star_plain {e : PySem.Expr} {es : List PySem.Expr} {env : Env} (h : ∀ t p, e ≠ .Starred t p) : starEach (e :: es) env = (false, eval e env) :: starEach es env := by
  cases e <;> first | rfl | exact absurd rfl (h _ _)
theorem star_false {fc : FC} {env : Env} {pos : Pos} : ∀ {es : List PySem.Expr} {ms : List ME}, CEs O fc es ms → ∀ x ∈ backTo pos (starEach es env), x.1 = false
  | [], _, _ => fun x hx => by simp [starEach, backTo] at hx
  | e :: es, _, .cons hm hst hr => fun x hx => by
    rw [star_plain hst] at hx
    unfold backTo at hx
    rw [List.map_cons] at hx
    rcases List.mem_cons.mp hx with rfl | hx
    · rfl
    · exact star_false hr x hx

theorem spliced_ok {A : Around} {env : Env} {T : TM N} {Φ : Addr → Option Obj} {s : Shared} {pos : Pos} {X : V N → Sto N → Prop} : ∀ {ms : List ME} {es : List PySem.Expr} {Q : List (V N) → Sto N → Prop} {σ : Sto N} {R : List Value → Shared → Prop} {T₁ : TM N} {s₁ : Shared}, CEs O c.fc es ms → Ext T s T₁ s₁ → At O c A env T₁ Φ ρ σ s₁ → AEl O c ms ρ σ Q X →
    (∀ T₂ σ₂ vs xs s₂, Ext T s T₂ s₂ → T₁.le T₂ → At O c A env T₂ Φ ρ σ₂ s₂ → VReps O T₂ vs xs → Q vs σ₂ → R xs s₂) → wpAny (model O.prog O.w) A (spliced (backTo pos (starEach es env))) R (PostY O c A env Φ ρ T s X) s₁
  | [], _, Q, σ, R, T₁, s₁, .nil, e₁, hA, h, k => wpAny_pure (k T₁ σ [] [] s₁ e₁ (TM.le_refl _) hA .nil h)
  | m :: ms, _, Q, σ, R, T₁, s₁, .cons (e := e) (es := es) hm hst hr, e₁, hA, h, k => by
    refine wpAny_items_cons (kE e₁ (h A env T₁ Φ s₁ e hm hA) fun T₂ σ₂ v a s₂ e₂ le₂ h₂ hv hq => ?_) (star_plain hst)
    exact spliced_ok hr e₂ h₂ hq fun T₃ σ₃ vs xs s₃ e₃ le₃ h₃ hvs hq₃ => k T₃ σ₃ (v :: vs) (a :: xs) s₃ e₃ (TM.le_trans le₂ le₃) h₃ (.cons (hv.mono le₃) hvs) hq₃

theorem kws_ok {A : Around} {env : Env} {T : TM N} {Φ : Addr → Option Obj} {s : Shared} {pos : Pos} {X : V N → Sto N → Prop} : ∀ {ms : List ME} {ns : List Str} {ks : List Keyword} {Q : List (V N) → Sto N → Prop} {σ : Sto N} {R : List Value → Shared → Prop} {T₁ : TM N} {s₁ : Shared}, CKs O c.fc ks ns ms → Ext T s T₁ s₁ → At O c A env T₁ Φ ρ σ s₁ → AEl O c ms ρ σ Q X →
    (∀ T₂ σ₂ vs xs s₂, Ext T s T₂ s₂ → T₁.le T₂ → At O c A env T₂ Φ ρ σ₂ s₂ → VReps O T₂ vs xs → Q vs σ₂ → R xs s₂) → wpAny (model O.prog O.w) A (evalAll ((backToKw pos (keywordEach ks env)).map (·.2))) R (PostY O c A env Φ ρ T s X) s₁
  | [], _, _, Q, σ, R, T₁, s₁, .nil, e₁, hA, h, k => wpAny_pure (k T₁ σ [] [] s₁ e₁ (TM.le_refl _) hA .nil h)
  | m :: ms, _, _, Q, σ, R, T₁, s₁, .cons (x := x) (e := e) (p := p) (ks := ks) hm hr, e₁, hA, h, k => by
    show wpAny _ _ (do
      let v ← (do let v ← eval e env; standAt pos; pure v)
      return v :: (← holding [v] (evalAll ((backToKw pos (keywordEach ks env)).map (·.2))))) _ _ s₁
    refine wpAny_bind (wpAny_bind (kE e₁ (h A env T₁ Φ s₁ e hm hA) fun T₂ σ₂ v a s₂ e₂ le₂ h₂ hv hq => ?_))
    refine wpAny_bind (wpAny_standAt (wpAny_pure (wpAny_bind (wpAny_holding ?_))))
    exact kws_ok hr e₂ h₂ hq fun T₃ σ₃ vs xs s₃ e₃ le₃ h₃ hvs hq₃ => wpAny_pure (k T₃ σ₃ (v :: vs) (a :: xs) s₃ e₃ (TM.le_trans le₂ le₃) h₃ (.cons (hv.mono le₃) hvs) hq₃)
theorem kws_all {fc : FC} {env : Env} {pos : Pos} : ∀ {ms : List ME} {ns : List Str} {ks : List Keyword}, CKs O fc ks ns ms → (backToKw pos (keywordEach ks env)).all (·.1.isSome) = true ∧ (backToKw pos (keywordEach ks env)).filterMap (·.1) = ns
  | [], _, _, .nil => ⟨rfl, rfl⟩
  | m :: ms, _, _, .cons (x := x) (e := e) (p := p) (ks := ks) hm hr => by
    obtain ⟨a, b⟩ := kws_all (env := env) (pos := pos) hr
    exact ⟨by show (true && _) = true; rw [Bool.true_and]; exact a, by show x :: _ = _; rw [← b]; rfl⟩

/-- what may be called -/
def KeepOk (O : Om) : V N → Prop
  | .st (.ref a) => (∃ o, O.K.lookup a = some o ∧ ((∃ fd, o.data = .func fd) ∨ (∃ cd r, o.data = .cls cd ∧ specialIn O.K (.ref a) "__call__" = some r)))
  | .st _ => True
  | .clo _ _ => True
  | .meth (.st (.ref a)) _ => ∃ o fd, O.K.lookup a = some o ∧ o.data = .func fd
  | .meth (.st _) _ => True
  | _ => False

theorem keeper_ok {A : Around} {env : Env} {T : TM N} {Φ : Addr → Option Obj} {s : Shared} {E : Value → Shared → Prop} {v : V N} {a : Value} (ok : O.Ok) (hA : At O c A env T Φ ρ σ s) (hv : VRep O T v a) (hk : KeepOk O v) (R : Keeper → Shared → Prop) (k : ∀ k, R k s) : wpAny (model O.prog O.w) A (keeperOf a) R E s := by
  have X := hA.K ok
  unfold keeperOf
  cases v <;> try exact hk.elim
  · rename_i u
    unfold VRep at hv; subst hv
    cases a with
    | ref b =>
      obtain ⟨o, ho, ⟨fd, hd⟩ | ⟨cd, r, hd, hs⟩⟩ := hk
      · refine wpAny_bind (wpAny_load (X _ _ ho) ?_)
        rw [hd]; exact wpAny_pure (k _)
      · refine wpAny_bind (wpAny_load (X _ _ ho) ?_)
        rw [hd]
        exact wpAny_bind ((looks_specialIn X hs) _ _ _ _ (fun _ _ e => e) (wpAny_pure (k _)))
    | _ => exact wpAny_pure (k _)
  · unfold VRep at hv
    obtain ⟨b, r, cls, doc, pm, cd, ct, rfl, _, hT, _⟩ := hv
    refine wpAny_bind (wpAny_load (hA.fro hT) ?_)
    exact wpAny_pure (k _)
  · rename_i f sf
    unfold VRep at hv
    obtain ⟨b, fv, sv, rfl, hT, hf, hs⟩ := hv
    refine wpAny_bind (wpAny_load (hA.fro hT) ?_)
    dsimp only
    rw [if_neg (by decide)]
    cases f <;> try exact hk.elim
    rename_i u
    unfold VRep at hf; subst hf
    cases fv with
    | ref g =>
      obtain ⟨o, fd, ho, hd⟩ := hk
      show wpAny _ _ (do return match (← load g).data with | .func _ => Keeper.boundFrame | _ => .caller) _ _ s
      refine wpAny_bind (wpAny_load (X _ _ ho) ?_)
      exact wpAny_pure (k _)
    | _ => exact wpAny_pure (k _)

def ResP (Q E : Value → Shared → Prop) : Result → Shared → Prop := fun r s' => match r with | .ok (.ret v) => Q v s' | .ok _ => False | .error e => E e s'
/-- a call with its arguments in hand -/
def PCc (O : Om) (c : Cx N) (f : V N) (as : List (V N)) (ns : List Str) (ks : List (V N)) (ρ : Loc N) (σ : Sto N) (Q X : V N → Sto N → Prop) : Prop := KeepOk O f ∧ ∀ A env T Φ s fv avs kvs, At O c A env T Φ ρ σ s → VRep O T f fv → VReps O T as avs → VReps O T ks kvs →
  codeAny (model O.prog O.w) A (.call fv ⟨avs, ns.zip kvs⟩) (ResP (Post O c A env Φ ρ T s Q) (PostY O c A env Φ ρ T s X)) s

/-- .. as it is asked where it is written -/
def PC (O : Om) (c : Cx N) (f : V N) (as : List (V N)) (ns : List Str) (ks : List (V N)) (ρ : Loc N) (σ : Sto N) (Q X : V N → Sto N → Prop) : Prop := KeepOk O f ∧ ∀ A env T Φ s fv avs kvs, At O c A env T Φ ρ σ s → VRep O T f fv → VReps O T as avs → VReps O T ks kvs →
  wpAny (model O.prog O.w) A (call fv avs (ns.zip kvs)) (Post O c A env Φ ρ T s Q) (PostY O c A env Φ ρ T s X) s
theorem PCc.pc {f : V N} {as ks : List (V N)} {ns : List Str} {Q X : V N → Sto N → Prop} (h : PCc O c f as ns ks ρ σ Q X) : PC O c f as ns ks ρ σ Q X := ⟨h.1, fun A env T Φ s fv avs kvs hA hf has hus => wpAny_call (h.2 A env T Φ s fv avs kvs hA hf has hus)⟩

theorem callE {A : Around} {env : Env} {T T₁ : TM N} {Φ : Addr → Option Obj} {s s₁ : Shared} {pos : Pos} {X Q : V N → Sto N → Prop} {f : V N} {fv : Value} {fs : List (V N)} {first : List Value} {as : List PySem.Expr} {ms kv : List ME} {kn : List Str} {ks : List Keyword} (ok : O.Ok)
    (hms : CEs O c.fc as ms) (hks : CKs O c.fc ks kn kv) (e₁ : Ext T s T₁ s₁) (hA : At O c A env T₁ Φ ρ σ s₁) (hf : VRep O T₁ f fv) (hfs : VReps O T₁ fs first)
    (h : AEl O c ms ρ σ (fun vs σ₁ => AEl O c kv ρ σ₁ (fun us σ₂ => PC O c f (fs ++ vs) kn us ρ σ₂ Q X) X) X) :
    wpAny (model O.prog O.w) A (callWith pos fv first (backTo pos (starEach as env)) (backToKw pos (keywordEach ks env))) (Post O c A env Φ ρ T s Q) (PostY O c A env Φ ρ T s X) s₁ := by
  obtain ⟨k1, k2⟩ := kws_all (env := env) (pos := pos) hks
  refine callWith_ok (evalArgs_ok (star_false hms) k1 (spliced_ok hms e₁ hA h fun T₂ σ₂ vs xs s₂ e₂ le₂ h₂ hvs hq => ?_))
  rw [k2]
  refine kws_ok hks e₂ h₂ hq fun T₃ σ₃ us ys s₃ e₃ le₃ h₃ hus hq₃ => ⟨fun R k => ?_, ?_⟩
  · exact keeper_ok ok h₃ ((hf.mono le₂).mono le₃) hq₃.1 R k
  · exact endE (R' := Q) e₃ (hq₃.2 A env T₃ Φ s₃ fv _ _ h₃ ((hf.mono le₂).mono le₃) (((hfs.mono le₂).mono le₃).append (hvs.mono le₃)) hus)

theorem AE.call {m : ME} {ms : List ME} {kn : List Str} {kv : List ME} {Q X : V N → Sto N → Prop} (ok : O.Ok)
    (h : AE O c m ρ σ (fun f σ₁ => AEl O c ms ρ σ₁ (fun vs σ₂ => AEl O c kv ρ σ₂ (fun us σ₃ => PC O c f vs kn us ρ σ₃ Q X) X) X) X) : AE O c (.call m ms kn kv) ρ σ Q X := fun A env T Φ s e he hA => by
  cases he with
  | call hm hna hms hks =>
    rename_i f0 as ks p
    have e0 : eval (.Call f0 as ks p) env = (do callWith p (← eval f0 env) [] (backTo p (starEach as env)) (backToKw p (keywordEach ks env))) := by
      cases f0 <;> first | rfl | exact absurd rfl (hna _ _ _)
    rw [e0]
    exact wpAny_bind (kE (.refl _ _) (h A env T Φ s _ hm hA) fun T₁ σ₁ f fv s₁ e₁ le₁ h₁ hf hq => callE ok hms hks e₁ h₁ hf .nil hq)

/-- a method met by its name: what is called, and what it is called on -/
def PM (O : Om) (c : Cx N) (x : Str) (o : V N) (ρ : Loc N) (σ : Sto N) (Q : V N → List (V N) → Sto N → Prop) (X : V N → Sto N → Prop) : Prop := ∀ A env T Φ s a pl, At O c A env T Φ ρ σ s → VRep O T o a →
  wpAny (model O.prog O.w) A (getMethod a x pl) (fun r s₁ => ∃ T₁ σ₁ f fs, Ext T s T₁ s₁ ∧ At O c A env T₁ Φ ρ σ₁ s₁ ∧ VRep O T₁ f r.1 ∧ VReps O T₁ fs r.2 ∧ Q f fs σ₁) (PostY O c A env Φ ρ T s X) s

theorem importBound_any {A : Around} {env : Env} {T : TM N} {Φ : Addr → Option Obj} {s : Shared} {E : Value → Shared → Prop} {o : PySem.Expr} {R : Option Bool → Shared → Prop} (ok : O.Ok) (hA : At O c A env T Φ ρ σ s) (k : ∀ b, R b s) : wpAny (model O.prog O.w) A (importBound o env) R E s := by
  unfold importBound
  split
  · refine wpAny_bind (wpAny_askSetting (wpAny_bind (wpAny_nsGet (by rw [hA.env.globals]; exact (hA.top ok).g) ?_)))
    split <;> exact wpAny_pure (k _)
  · exact wpAny_pure (k _)
end
end Mine
namespace Mine
section
variable {N : Type} {O : Om} {c : Cx N} {ρ : Loc N} {σ : Sto N} {Q X : V N → Sto N → Prop}

theorem base_plain {o : PySem.Expr} {x : Str} {env : Env} {whole : Sem Value} (h : noSuper o = true) : attributeBase o x env whole = whole := by
  unfold attributeBase
  split
  · rename_i id p q
    have : (id != ("super" : Str)) = true := h
    simp only [this, Bool.true_or, if_true]
  · rfl
theorem AE.attr {m : ME} {x : Str} (h : AE O c m ρ σ (fun o σ₁ => P1 O c (fun a => getAttr a x true) o ρ σ₁ Q X) X) : AE O c (.attr m x) ρ σ Q X := fun A env T Φ s e he hA => by
  cases he with
  | attr hm hs =>
    rename_i e0 p
    refine Attribute_any_ (kE (.refl _ _) (h A env T Φ s _ hm hA) fun T₁ σ₁ o a s₁ e₁ le₁ h₁ ho hq => endE (R' := Q) e₁ (hq A env T₁ Φ s₁ a h₁ ho)) ?_
    rw [arm_eval_Attribute, base_plain hs]

theorem AE.mcall {m : ME} {x : Str} {ms : List ME} {kn : List Str} {kv : List ME} (ok : O.Ok)
    (h : AE O c m ρ σ (fun o σ₁ => PM O c x o ρ σ₁ (fun f fs σ₂ => AEl O c ms ρ σ₂ (fun vs σ₃ => AEl O c kv ρ σ₃ (fun us σ₄ => PC O c f (fs ++ vs) kn us ρ σ₄ Q X) X) X) X) X) : AE O c (.mcall m x ms kn kv) ρ σ Q X := fun A env T Φ s e he hA => by
  cases he with
  | mcall hm hms hks hlen hs hl =>
    rename_i o ap as ks p
    show wpAny _ _ (do
      let ov ← attributeBase o x env (eval o env)
      standAt ap.atName
      methodCall o x ap p env ov (as.length + ks.length) (backTo p (starEach as env)) (backToKw p (keywordEach ks env))) _ _ s
    rw [base_plain hs]
    obtain ⟨k1, k2⟩ := kws_all (env := env) (pos := p) hks
    have hform : methodCallForm (as.length + ks.length) (backTo p (starEach as env)) (backToKw p (keywordEach ks env)) = true := by
      unfold methodCallForm
      rw [k1, Bool.and_true, Bool.and_eq_true]
      refine ⟨List.all_eq_true.mpr fun y hy => by rw [star_false hms y hy]; rfl, decide_eq_true ?_⟩
      split <;> omega
    refine wpAny_bind (kE (.refl _ _) (h A env T Φ s _ hm hA) fun T₁ σ₁ ov a s₁ e₁ le₁ h₁ ho hq => wpAny_bind (wpAny_standAt ?_))
    unfold methodCall
    rw [hform]
    refine wpAny_bind (wpAny_holding ?_)
    show wpAny _ _ (getMethod a x (do return (← importBound o env).getD true)) _ _ s₁
    refine wpAny_mono (hq A env T₁ Φ s₁ a _ h₁ ho) (fun r s₂ h₂ => ?_) fun _ _ z => z.ext e₁
    obtain ⟨T₂, σ₂, f, fs, e₂, h₂, hf, hfs, hq₂⟩ := h₂
    obtain ⟨fv, first⟩ := r
    have hpos : methodCallPos true o env ap p = pure p := by
      unfold methodCallPos
      rw [hl]; rfl
    rw [hpos]
    refine wpAny_bind (wpAny_pure ?_)
    exact callE ok hms hks (e₁.trans e₂) h₂ hf hfs hq₂

/-! items -/
/-- a built-in container's items -/
def PI (O : Om) (c : Cx N) (x y : V N) (ρ : Loc N) (σ : Sto N) (Q X : V N → Sto N → Prop) : Prop := ∀ A env T Φ s a b, At O c A env T Φ ρ σ s → VRep O T x a → VRep O T y b →
  (∃ t id, s.TypeIs a t ∧ Slot t "__getitem__" id) ∧ wpAny (model O.prog O.w) A (getItem a b) (Post O c A env Φ ρ T s Q) (PostY O c A env Φ ρ T s X) s
theorem inPython_no {A : Around} {s : Shared} {E : Value → Shared → Prop} {a : Value} {t id : String} {R : Bool → Shared → Prop} {M : Model} (hT : s.TypeIs a t) (h : Slot t "__getitem__" id) (k : R false s) : wpAny M A (getitemInPython a) R E s := by
  unfold getitemInPython
  exact wpAny_bind (wpAny_specialOf hT h.lookup (wpAny_pure k))
def noSlice : ME → Bool
  | .sli _ _ => false
  | .bad => false
  | _ => true
theorem AE.sub {m i : ME} (hi : noSlice i = true) (h : AE O c m ρ σ (fun x σ₁ => AE O c i ρ σ₁ (fun y σ₂ => PI O c x y ρ σ₂ Q X) X) X) : AE O c (.sub m i) ρ σ Q X := fun A env T Φ s e he hA => by
  cases he with
  | sub hm hi' =>
    rename_i e0 e1 p
    show wpAny _ _ (do
      let o ← eval e0 env
      let i ← holding [o] (eval e1 env)
      standAt p
      let r ← subscripted e1 (← getitemInPython o) o i
      letTemporaryGo e0 o r
      pure r) _ _ s
    refine wpAny_bind (kE (.refl _ _) (h A env T Φ s _ hm hA) fun T₁ σ₁ x a s₁ e₁ le₁ h₁ hx hq => wpAny_bind (wpAny_holding ?_))
    refine kE e₁ (hq A env T₁ Φ s₁ _ hi' h₁) fun T₂ σ₂ y b s₂ e₂ le₂ h₂ hy hq₂ => wpAny_bind (wpAny_standAt ?_)
    obtain ⟨⟨t, id, ht, hsl⟩, hget⟩ := hq₂ A env T₂ Φ s₂ a b h₂ (hx.mono le₂) hy
    refine wpAny_bind (inPython_no ht hsl ?_)
    have hsub : subscripted e1 false a b = operate [a, b] (getItem a b) := by
      cases hi' <;> first | rfl | cases hi
    rw [hsub]
    exact wpAny_bind (wpAny_operateT (wpAny_mono hget (fun r s₃ h₃ => wpAny_bind (wpAny_letTemporaryGo (wpAny_pure (h₃.ext e₂)))) fun _ _ z => z.ext e₂))
/-- .. and its cuts -/
abbrev sliceObj (l u : Value) : Obj := { cls := .type "slice", data := .fields #[l, u, .none] }
def PS (O : Om) (c : Cx N) (x : V N) (lo hi : V N) (ρ : Loc N) (σ : Sto N) (Q X : V N → Sto N → Prop) : Prop := ∀ A env T Φ s a l u b, At O c A env T Φ ρ σ s → VRep O T x a → VRep O T lo l → VRep O T hi u → s.heap.get? b = some (sliceObj l u) →
  (∃ t id, s.TypeIs a t ∧ Slot t "__getitem__" id) ∧ wpAny (model O.prog O.w) A (getItem a (.ref b)) (Post O c A env Φ ρ T s Q) (PostY O c A env Φ ρ T s X) s
def AEo (O : Om) (c : Cx N) (m : Option ME) (ρ : Loc N) (σ : Sto N) (Q X : V N → Sto N → Prop) : Prop := match m with
  | Option.none => Q .none σ
  | some m => AE O c m ρ σ Q X
theorem opt_ok {A : Around} {env : Env} {T T₁ : TM N} {Φ : Addr → Option Obj} {s s₁ : Shared} {e : Option PySem.Expr} {m : Option ME} {R : Value → Shared → Prop} {Q₁ : V N → Sto N → Prop} (he : CEo O c.fc e m) (x : Ext T s T₁ s₁) (hA : At O c A env T₁ Φ ρ σ s₁) (h : AEo O c m ρ σ Q₁ X)
    (k : ∀ T₂ σ₂ v a s₂, Ext T s T₂ s₂ → T₁.le T₂ → At O c A env T₂ Φ ρ σ₂ s₂ → VRep O T₂ v a → Q₁ v σ₂ → R a s₂) : wpAny (model O.prog O.w) A (valueOrNone (evalOpt e env)) R (PostY O c A env Φ ρ T s X) s₁ := by
  cases he with
  | none => exact wpAny_pure (k T₁ σ .none .none s₁ x (TM.le_refl _) hA (by unfold VRep; rfl) h)
  | some hm => exact kE x (h A env T₁ Φ s₁ _ hm hA) k
theorem AE.subS {m : ME} {lo hi : Option ME} (h : AE O c m ρ σ (fun x σ₁ => AEo O c lo ρ σ₁ (fun y σ₂ => AEo O c hi ρ σ₂ (fun z σ₃ => PS O c x y z ρ σ₃ Q X) X) X) X) : AE O c (.sub m (.sli lo hi)) ρ σ Q X := fun A env T Φ s e he hA => by
  cases he with
  | sub hm hi' =>
    cases hi' with
    | sli hlo hhi =>
      rename_i e0 p el eh ps
      show wpAny _ _ (do
        let o ← eval e0 env
        let i ← holding [o] (eval (.Slice el eh Option.none ps) env)
        standAt p
        let r ← subscripted (.Slice el eh Option.none ps) (← getitemInPython o) o i
        letTemporaryGo e0 o r
        pure r) _ _ s
      refine wpAny_bind (kE (.refl _ _) (h A env T Φ s _ hm hA) fun T₁ σ₁ x a s₁ e₁ le₁ h₁ hx hq => wpAny_bind (wpAny_holding ?_))
      show wpAny _ _ (do
        let l ← valueOrNone (evalOpt el env)
        let u ← holding [l] (valueOrNone (evalOpt eh env))
        let s ← holding [l, u] (valueOrNone (evalOpt Option.none env))
        newFields "slice" [l, u, s]) _ _ s₁
      refine wpAny_bind (opt_ok hlo e₁ h₁ hq fun T₂ σ₂ y l s₂ e₂ le₂ h₂ hy hq₂ => wpAny_bind (wpAny_holding ?_))
      refine opt_ok hhi e₂ h₂ hq₂ fun T₃ σ₃ z u s₃ e₃ le₃ h₃ hz hq₃ => wpAny_bind (wpAny_holding (wpAny_pure ?_))
      refine wpAny_newObj_type ?_ (by size_fits)
      refine wpAny_bind (wpAny_standAt ?_)
      have h₄ : At O c A env T₃ Φ ρ σ₃ { s₃ with heap := s₃.heap.push (sliceObj l u) } := h₃.keeps fun b o e => Heap.get?_push_of_some _ e
      have e₄ : Ext T s T₃ { s₃ with heap := s₃.heap.push (sliceObj l u) } := e₃.trans ⟨TM.le_refl _, rfl, rfl⟩
      obtain ⟨⟨t, id, ht, hsl⟩, hget⟩ := hq₃ A env T₃ Φ _ a l u s₃.heap.objs.size h₄ ((hx.mono le₂).mono le₃) (hy.mono le₃) hz (Heap.get?_push_size _ rfl)
      refine wpAny_bind (inPython_no ht hsl ?_)
      exact wpAny_bind (wpAny_operateT (wpAny_mono hget (fun r s₅ h₅ => wpAny_bind (wpAny_letTemporaryGo (wpAny_pure (h₅.ext e₄)))) fun _ _ z => z.ext e₄))

/-! displays -/
theorem sliceSize {n : Nat} {vs : List (V N)} {T : TM N} {xs : List Value} (h : VReps O T vs xs) (hz : vs.length ≤ n) : xs.length ≤ n := by rw [h.length]; exact hz
theorem AE.tup {ms : List ME} (h : AEl O c ms ρ σ (fun vs σ₁ => vs.length ≤ sizeLine ∧ Q (.tup vs) σ₁) X) : AE O c (.tup ms) ρ σ Q X := fun A env T Φ s e he hA => by
  cases he with
  | tup hms =>
    refine wpAny_Tuple (spliced_ok hms (.refl _ _) hA h fun T₁ σ₁ vs xs s₁ e₁ le₁ h₁ hvs hq => ⟨sliceSize hvs hq.1, ?_⟩)
    have hT := h₁.rep.size_none
    refine .mk' (h₁.fro_new (s' := { s₁ with heap := s₁.heap.push (tupOf xs.toArray 0) }) (fun b o e => Heap.get?_push_of_some _ e) (Nat.le_refl _) (Heap.get?_push_size _ rfl)) (e₁.trans ⟨TM.le_ins hT, rfl, rfl⟩) ?_ hq.2
    unfold VRep
    exact ⟨_, xs.toArray, 0, rfl, TM.ins_self, by rw [List.toList_toArray]; exact hvs.mono (TM.le_ins hT)⟩
/-- a list that nobody writes any more -/
theorem AE.lst {ms : List ME} (h : AEl O c ms ρ σ (fun vs σ₁ => vs.length ≤ sizeLine ∧ Q (.lst vs) σ₁) X) : AE O c (.lst ms) ρ σ Q X := fun A env T Φ s e he hA => by
  cases he with
  | lst hms =>
    refine wpAny_List (spliced_ok hms (.refl _ _) hA h fun T₁ σ₁ vs xs s₁ e₁ le₁ h₁ hvs hq => ⟨sliceSize hvs hq.1, ?_⟩)
    have hT := h₁.rep.size_none
    refine .mk' (h₁.fro_new (s' := { s₁ with heap := s₁.heap.push (listOf xs.toArray 0) }) (fun b o e => Heap.get?_push_of_some _ e) (Nat.le_refl _) (Heap.get?_push_size _ rfl)) (e₁.trans ⟨TM.le_ins hT, rfl, rfl⟩) ?_ hq.2
    unfold VRep
    exact ⟨_, xs.toArray, 0, rfl, TM.ins_self, by rw [List.toList_toArray]; exact hvs.mono (TM.le_ins hT)⟩
/-- a list with a name -/
theorem AE.lstN (n : N) {ms : List ME} (h : AEl O c ms ρ σ (fun vs σ₁ => vs.length ≤ sizeLine ∧ σ₁ n = Option.none ∧ Q (.ref n) (σ₁.set n (.list vs))) X) : AE O c (.lst ms) ρ σ Q X := fun A env T Φ s e he hA => by
  cases he with
  | lst hms =>
    refine wpAny_List (spliced_ok hms (.refl _ _) hA h fun T₁ σ₁ vs xs s₁ e₁ le₁ h₁ hvs hq => ⟨sliceSize hvs hq.1, ?_⟩)
    have hT := h₁.rep.size_none
    refine .mk' (h₁.own_new (n := n) (o := .list vs) (s' := { s₁ with heap := s₁.heap.push (listOf xs.toArray 0) }) (fun b o e => Heap.get?_push_of_some _ e) (Nat.le_refl _) hq.2.1 rfl (Heap.get?_push_size _ rfl) ⟨xs.toArray, 0, rfl, by rw [List.toList_toArray]; exact hvs.mono (TM.le_ins hT)⟩) (e₁.trans ⟨TM.le_ins hT, rfl, rfl⟩) ?_ hq.2.2
    unfold VRep
    exact ⟨_, rfl, TM.ins_self⟩

/-- a method of the class, met at an instance -/
theorem PM.inst {x : Str} {n : N} {C f : Addr} {ns : List Str} {vs : List (V N)} {Q : V N → List (V N) → Sto N → Prop} (ok : O.Ok) (hc : ClsOk O C) (hσ : σ n = some (.inst C ns vs)) (hf : findIn O.K (.ref C) x = some (some (.ref f))) (ht : typeIn O.K (.ref f) = some (.type "function"))
    (hg : fget ns vs x = Option.none) (h : Q (.st (.ref f)) [.ref n] σ) : PM O c x (.ref n) ρ σ Q X := fun A env T Φ s a pl hA hv => by
  obtain ⟨b, d, es, k, rfl, hx, hd, h1, h2, h3, h4, I⟩ := inst_at hA hv hσ
  refine method_fn (hA.K ok) I hc.ga hc.gn hf ht ?_ ⟨T, σ, _, _, .refl _ _, hA, by unfold VRep; rfl, .cons hv .nil, h⟩
  unfold shadowIn
  dsimp only
  rw [lookIn_dict, (KeysAre.get (x := x) h3 h4).2.1 hg]; rfl
end
end Mine
namespace Mine

/-! binding arguments -/
def addD {α : Type} (S : List (Str × α)) : List (Str × α) → List (Str × α)
  | [] => S
  | (n, d) :: r => if (S.lookup n).isNone then addD (S ++ [(n, d)]) r else addD S r
def kwOk {α : Type} (ns : List Str) : List (Str × α) → List (Str × α) → Bool
  | _, [] => true
  | S, (k, v) :: r => ns.contains k && !(S.lookup k).isSome && kwOk ns (S ++ [(k, v)]) r
def bindOk {α : Type} (ns : List Str) (nd : Nat) (pos : List α) (kw : List (Str × α)) : Bool :=
  decide (pos.length ≤ ns.length) && decide (nd ≤ ns.length) && kwOk ns (ns.zip pos) kw && (ns.take (ns.length - nd)).all fun n => ((ns.zip pos ++ kw).lookup n).isSome
def bindP {α : Type} (ns : List Str) (ds pos : List α) (kw : List (Str × α)) : List (Str × α) :=
  ns.filterMap fun n => ((addD (ns.zip pos ++ kw) ((ns.drop (ns.length - ds.length)).zip ds)).lookup n).map fun v => (n, v)

theorem forIn_kw {ns : List Str} {f : Str × Value → List (Str × Value) × List (Str × Value) → Sem (ForInStep (List (Str × Value) × List (Str × Value)))}
    (hf : ∀ k v S ex, ns.contains k = true → (S.lookup k).isSome = false → f (k, v) (S, ex) = pure (.yield (S ++ [(k, v)], ex))) :
    ∀ (kw S : List (Str × Value)) (ex : List (Str × Value)), kwOk ns S kw = true → forIn kw (S, ex) f = pure (S ++ kw, ex)
  | [], S, ex, _ => by rw [List.forIn_nil, List.append_nil]
  | (k, v) :: r, S, ex, h => by
    unfold kwOk at h
    simp only [Bool.and_eq_true, Bool.not_eq_true'] at h
    rw [List.forIn_cons, hf k v S ex h.1.1 h.1.2]
    show forIn r (S ++ [(k, v)], ex) f = _
    rw [forIn_kw hf r (S ++ [(k, v)]) ex h.2, List.append_assoc]; rfl
theorem forIn_dflt {f : Str × Value → List (Str × Value) → Sem (ForInStep (List (Str × Value)))}
    (hf : ∀ n d S, f (n, d) S = if (S.lookup n).isNone then pure (.yield (S ++ [(n, d)])) else pure (.yield S)) :
    ∀ (l S : List (Str × Value)), forIn l S f = pure (addD S l)
  | [], S => by rw [List.forIn_nil]; rfl
  | (n, d) :: r, S => by
    rw [List.forIn_cons, hf n d S]
    unfold addD
    split
    · show forIn r (S ++ [(n, d)]) f = _
      exact forIn_dflt hf r _
    · show forIn r S f = _
      exact forIn_dflt hf r _

/-- the default values of a def, as they lie -/
def DfltsAre (h : Heap) (dV : Value) (ds : List Value) : Prop := (dV = .none ∧ ds = []) ∨ ∃ a o n, dV = .ref a ∧ h.get? a = some o ∧ o.data = .seq ds.toArray n

theorem binds_ok {s : Shared} {fd : FuncData} {ds pos : List Value} {kw : List (Str × Value)} {ns : List Str} (hp : fd.params.posonlyargs = []) (hns : fd.params.args.map (·.arg) = ns) (hko : fd.params.kwonlyargs = []) (hv : fd.params.vararg = Option.none) (hk : fd.params.kwarg = Option.none)
    (hd : DfltsAre s.heap fd.defaults ds) (ok : bindOk ns ds.length pos kw = true) : BindsTo s fd ⟨pos, kw⟩ (bindP ns ds pos kw) := by
  intro M A E Q hq
  unfold bindOk at ok
  simp only [Bool.and_eq_true, decide_eq_true_eq] at ok
  obtain ⟨⟨⟨ok1, ok2⟩, ok3⟩, ok4⟩ := ok
  unfold bindArgs
  simp only [hp, hko, List.map_nil, List.nil_append, List.append_nil, hns]
  rw [forIn_kw (ns := ns) (fun k v S ex h1 h2 => by simp only [h1, h2, Bool.true_or, if_true, Bool.false_eq_true, if_false]) kw (ns.zip pos) [] ok3]
  show wpAny M A (seqItems? fd.defaults >>= _) Q E s
  have hmiss : (ns.take (ns.length - ds.length)).filter (fun n => ((ns.zip pos ++ kw).lookup n).isNone) = [] := by
    rw [List.filter_eq_nil_iff]
    intro n hn
    have := List.all_eq_true.mp ok4 n hn
    rw [Option.isSome_iff_ne_none] at this
    simpa [Option.isNone_iff_eq_none] using this
  rcases hd with ⟨h1, rfl⟩ | ⟨a, o, n, h1, h2, h3⟩
  · rw [h1]
    refine wpAny_bind (wpAny_of_eq (a := Option.none) rfl ?_)
    dsimp only [Option.getD_none]
    simp only [gt_iff_lt, Nat.not_lt.mpr ok1, decide_false, Bool.false_and, Bool.false_eq_true, if_false, List.drop_nil, List.length_nil, Nat.sub_zero, List.zip_nil_right, List.forIn_nil]
    simp only [List.length_nil, Nat.sub_zero] at hmiss
    rw [hmiss]
    simp only [List.isEmpty_nil, Bool.not_true, Bool.false_eq_true, if_false, pure_bind, List.forIn_nil, hv, hk]
    refine wpAny_pure ?_
    have : bindP ns [] pos kw = ns.filterMap fun n => ((ns.zip pos ++ kw).lookup n).map fun v => (n, v) := by
      unfold bindP; simp [addD]
    rw [this] at hq; exact hq
  · rw [h1]
    refine wpAny_bind (wpAny_seqItems h2 h3 ?_)
    dsimp only [Option.getD_some]
    have e0 : ds.length - ns.length = 0 := by omega
    simp only [gt_iff_lt, Nat.not_lt.mpr ok1, decide_false, Bool.false_and, Bool.false_eq_true, if_false, e0, List.drop_zero]
    rw [hmiss]
    simp only [List.isEmpty_nil, Bool.not_true, Bool.false_eq_true, if_false]
    rw [forIn_dflt (fun n d S => rfl)]
    simp only [pure_bind, List.forIn_nil, List.isEmpty_nil, Bool.not_true, Bool.false_eq_true, if_false, hv, hk]
    exact wpAny_pure hq

section
variable {N : Type} {O : Om} {T : TM N}
def PReps (O : Om) (T : TM N) : List (Str × V N) → List (Str × Value) → Prop
  | [], l => l = []
  | p :: ps, l => ∃ x xs, l = (p.1, x) :: xs ∧ VRep O T p.2 x ∧ PReps O T ps xs
theorem PReps.zip : ∀ {ns : List Str} {vs : List (V N)} {xs : List Value}, VReps O T vs xs → PReps O T (ns.zip vs) (ns.zip xs)
  | [], _, _, _ => by simp [PReps]
  | _ :: _, [], _, h => by rw [h.nil_inv]; simp [PReps]
  | n :: ns, v :: vs, _, h => by obtain ⟨x, xs, rfl, a, b⟩ := h.cons_inv; exact ⟨x, _, rfl, a, PReps.zip b⟩
theorem PReps.append : ∀ {ps qs : List (Str × V N)} {xs ys : List (Str × Value)}, PReps O T ps xs → PReps O T qs ys → PReps O T (ps ++ qs) (xs ++ ys)
  | [], _, _, _, h, g => by unfold PReps at h; subst h; exact g
  | p :: ps, _, _, _, h, g => by obtain ⟨x, xs, rfl, a, b⟩ := h; exact ⟨x, _, rfl, a, b.append g⟩
theorem PReps.lookup (n : Str) : ∀ {ps : List (Str × V N)} {xs : List (Str × Value)}, PReps O T ps xs → (∀ v, ps.lookup n = some v → ∃ x, xs.lookup n = some x ∧ VRep O T v x) ∧ (ps.lookup n = none → xs.lookup n = none)
  | [], _, h => by unfold PReps at h; subst h; exact ⟨fun v e => by simp at e, fun _ => rfl⟩
  | (m, u) :: ps, _, h => by
    obtain ⟨x, xs, rfl, a, b⟩ := h
    obtain ⟨i, j⟩ := PReps.lookup n b
    rw [List.lookup_cons, List.lookup_cons]
    dsimp only
    cases n == m with
    | true => exact ⟨fun v e => by cases e; exact ⟨x, rfl, a⟩, fun e => by cases e⟩
    | false => exact ⟨i, j⟩
theorem PReps.isSome {n : Str} {ps : List (Str × V N)} {xs : List (Str × Value)} (h : PReps O T ps xs) : (xs.lookup n).isSome = (ps.lookup n).isSome := by
  obtain ⟨i, j⟩ := h.lookup n
  cases q : ps.lookup n with
  | none => rw [j q]; rfl
  | some v => obtain ⟨x, hx, _⟩ := i v q; rw [hx]; rfl
theorem PReps.addD : ∀ {qs : List (Str × V N)} {ys : List (Str × Value)} {ps : List (Str × V N)} {xs : List (Str × Value)}, PReps O T ps xs → PReps O T qs ys → PReps O T (Mine.addD ps qs) (Mine.addD xs ys)
  | [], _, _, _, h, g => by unfold PReps at g; subst g; exact h
  | (n, d) :: qs, _, ps, xs, h, g => by
    obtain ⟨y, ys, rfl, a, b⟩ := g
    unfold Mine.addD
    have e : (xs.lookup n).isNone = (ps.lookup n).isNone := by
      have := h.isSome (n := n)
      cases p : ps.lookup n <;> cases q : xs.lookup n <;> simp_all
    dsimp only
    rw [e]
    split
    · exact PReps.addD (h.append ⟨y, [], rfl, a, by unfold PReps; rfl⟩) b
    · exact PReps.addD h b
theorem PReps.fmap {ps : List (Str × V N)} {xs : List (Str × Value)} (h : PReps O T ps xs) : ∀ ns : List Str, PReps O T (ns.filterMap fun n => (ps.lookup n).map fun v => (n, v)) (ns.filterMap fun n => (xs.lookup n).map fun v => (n, v))
  | [] => by simp [PReps]
  | n :: ns => by
    obtain ⟨i, j⟩ := h.lookup n
    rw [List.filterMap_cons, List.filterMap_cons]
    cases q : ps.lookup n with
    | none => rw [j q]; exact h.fmap ns
    | some v => obtain ⟨x, hx, hv⟩ := i v q; rw [hx]; exact ⟨x, _, rfl, hv, h.fmap ns⟩
theorem bindP_rep {ns : List Str} {ds as us : List (V N)} {dvs avs kvs : List Value} {kn : List Str} (hd : VReps O T ds dvs) (ha : VReps O T as avs) (hu : VReps O T us kvs) :
    PReps O T (bindP ns ds as (kn.zip us)) (bindP ns dvs avs (kn.zip kvs)) := by
  unfold bindP
  rw [hd.length]
  exact PReps.fmap (((PReps.zip ha).append (PReps.zip hu)).addD (PReps.zip hd)) ns
theorem kwOk_rep {ns : List Str} : ∀ {qs : List (Str × V N)} {ys : List (Str × Value)} {ps : List (Str × V N)} {xs : List (Str × Value)}, PReps O T ps xs → PReps O T qs ys → kwOk ns xs ys = kwOk ns ps qs
  | [], _, _, _, h, g => by unfold PReps at g; subst g; rfl
  | (n, d) :: qs, _, ps, xs, h, g => by
    obtain ⟨y, ys, rfl, a, b⟩ := g
    unfold kwOk
    rw [h.isSome]
    dsimp only
    rw [kwOk_rep (h.append (ps := ps) (qs := [(n, d)]) (ys := [(n, y)]) ⟨y, [], rfl, a, by unfold PReps; rfl⟩) b]
theorem bindOk_rep {ns : List Str} {nd : Nat} {as us : List (V N)} {avs kvs : List Value} {kn : List Str} (ha : VReps O T as avs) (hu : VReps O T us kvs) : bindOk ns nd avs (kn.zip kvs) = bindOk ns nd as (kn.zip us) := by
  unfold bindOk
  rw [ha.length, kwOk_rep (PReps.zip ha) (PReps.zip hu)]
  congr 2
  funext n
  exact ((PReps.zip ha).append (PReps.zip hu)).isSome
end

/-! a call's own frame and cells -/
structure Laid (h₀ h : Heap) (L : Addr) (m : Str → Option Value) (cs : List (Str × Addr)) (cm : Str → Option Value) : Prop where
  keep : ∀ b o, h₀.get? b = some o → h.get? b = some o
  fresh : h₀.objs.size ≤ L
  ns : h.Ns L m
  cell : ∀ n c, (n, c) ∈ cs → h.IsCell c (cm n) ∧ L < c
  apart : cs.Pairwise fun x y => x.2 ≠ y.2
  uniq : (cs.map (·.1)).Nodup

theorem lay_binds {M : Model} {A : Around} {E : Value → Shared → Prop} {env : Env} {h₀ : Heap} {cs : List (Str × Addr)} (hk : env.scope.kind = .function) (hcs : ∀ n c, cs.lookup n = some c → env.cells.lookup n = some c)
    (f : Str × Value → PUnit → Sem (ForInStep PUnit)) (hf : ∀ n v u, f (n, v) u = (do storeName env n v; pure (.yield ⟨⟩))) :
    ∀ (binds : List (Str × Value)) (m cm : Str → Option Value) (s : Shared) (Q : PUnit → Shared → Prop), Laid h₀ s.heap env.locals m cs cm →
      (∀ x ∈ binds, env.kindOf x.1 = some .local ∨ (env.kindOf x.1 = some .cell ∧ (cs.lookup x.1).isSome = true)) →
      (∀ h' tk, Laid h₀ h' env.locals (bindL env.kindOf binds m) cs (bindC env.kindOf binds cm) → Q ⟨⟩ { s with heap := h', toks := tk }) → wpAny M A (forIn binds ⟨⟩ f) Q E s
  | [], m, cm, s, Q, x, _, h => by rw [List.forIn_nil]; exact wpAny_pure (h s.heap s.toks x)
  | (n, v) :: r, m, cm, s, Q, x, hkind, h => by
    rw [List.forIn_cons, hf]
    have hr : ∀ y ∈ r, env.kindOf y.1 = some .local ∨ (env.kindOf y.1 = some .cell ∧ (cs.lookup y.1).isSome = true) := fun y hy => hkind y (List.mem_cons_of_mem _ hy)
    have old : ∀ {a b o}, h₀.get? b = some o → env.locals ≤ a → b ≠ a := fun hb ha q => by
      have := Nat.lt_of_lt_of_le (Heap.lt_size hb) x.fresh
      exact Nat.lt_irrefl _ (q ▸ Nat.lt_of_lt_of_le this ha)
    rcases hkind (n, v) List.mem_cons_self with hl | ⟨hl, hc⟩
    · refine wpAny_bind (wpAny_bind (wpAny_storeName_local hl x.ns (fun h' hn hs => wpAny_pure ?_) (by rw [hk]; rfl)))
      have x' : Laid h₀ h' env.locals (fun y => if y = n then some v else m y) cs cm :=
        ⟨fun b o e => (hs.2 b (old e (Nat.le_refl _))).trans (x.keep b o e), x.fresh, hn, fun k c hm => ⟨(x.cell k c hm).1.sameBut hs (Nat.ne_of_gt (x.cell k c hm).2), (x.cell k c hm).2⟩, x.apart, x.uniq⟩
      refine lay_binds hk hcs f hf r _ _ _ Q x' hr fun h'' tk y => h h'' tk ?_
      unfold bindL bindC; rw [if_pos hl, if_pos hl]; exact y
    · obtain ⟨c, hc⟩ := Option.isSome_iff_exists.mp hc
      have hnl : ¬ env.kindOf n = some .local := by rw [hl]; decide
      have hm := mem_of_lookup hc
      refine wpAny_bind (wpAny_bind (wpAny_storeName_cell hk hl (hcs n c hc) (x.cell n c hm).1 fun h' hv hs => wpAny_pure ?_))
      have x' : Laid h₀ h' env.locals m cs (fun y => if y = n then some v else cm y) := by
        refine ⟨fun b o e => (hs.2 b (old e (Nat.le_of_lt (x.cell n c hm).2))).trans (x.keep b o e), x.fresh, x.ns.sameBut hs (Nat.ne_of_lt (x.cell n c hm).2), fun k c' hm' => ⟨?_, (x.cell k c' hm').2⟩, x.apart, x.uniq⟩
        by_cases q : k = n
        · subst q
          have q' : c' = c := by
            have := lookup_of_mem_nodup x.uniq hm'
            rw [hc] at this; cases this; rfl
          subst q'; simpa using hv
        · rw [if_neg q]
          exact (x.cell k c' hm').1.sameBut hs fun e => q (name_of_addr x.apart hm' (e ▸ hm))
      refine lay_binds hk hcs f hf r _ _ _ Q x' hr fun h'' tk y => h h'' tk ?_
      unfold bindL bindC; rw [if_neg hnl, if_neg hnl]; exact y
end Mine
namespace Mine

/-- the cells' names, as they are laid -/
def cellNames : List (Str × NameKind) → List Str
  | [] => []
  | (x, k) :: r => if k == .cell then cellNames r ++ [x] else cellNames r

theorem cellsFrom_app : ∀ (names : List (Str × NameKind)) (n : Nat) (acc : List (Str × Addr)), cellsFrom n names acc = cellsFrom n names [] ++ acc
  | [], _, _ => rfl
  | (x, k) :: r, n, acc => by
    unfold cellsFrom
    split
    · rw [cellsFrom_app r (n + 1) ((x, n) :: acc), cellsFrom_app r (n + 1) [(x, n)], List.append_assoc]; rfl
    · exact cellsFrom_app r n acc
theorem cellsFrom_fst : ∀ (names : List (Str × NameKind)) (n : Nat), (cellsFrom n names []).map (·.1) = cellNames names
  | [], _ => rfl
  | (x, k) :: r, n => by
    unfold cellsFrom cellNames
    split
    · rw [cellsFrom_app, List.map_append, cellsFrom_fst r]; rfl
    · exact cellsFrom_fst r n
theorem mem_cellNames : ∀ {names : List (Str × NameKind)} {x : Str}, x ∈ cellNames names ↔ (x, NameKind.cell) ∈ names
  | [], x => by simp [cellNames]
  | (y, k) :: r, x => by
    unfold cellNames
    cases k <;> simp [mem_cellNames (names := r), or_comm]
theorem cellNames_nodup : ∀ {names : List (Str × NameKind)}, (names.map (·.1)).Nodup → (cellNames names).Nodup
  | [], _ => by simp [cellNames]
  | (y, k) :: r, h => by
    rw [List.map_cons, List.nodup_cons] at h
    unfold cellNames
    split
    · rw [List.nodup_append]
      refine ⟨cellNames_nodup h.2, by simp, fun a ha b hb => ?_⟩
      rw [List.mem_singleton] at hb
      subst hb
      rintro rfl
      exact h.1 (List.mem_map.mpr ⟨_, mem_cellNames.mp ha, rfl⟩)
    · exact cellNames_nodup h.2
theorem lookup_isSome {α : Type} : ∀ {l : List (Str × α)} {x : Str}, x ∈ l.map (·.1) → (l.lookup x).isSome = true
  | (y, v) :: r, x, h => by
    rw [List.lookup_cons]
    cases q : x == y with
    | true => rfl
    | false =>
      rw [List.map_cons, List.mem_cons] at h
      rcases h with rfl | h
      · simp at q
      · exact lookup_isSome h
theorem lookup_none {α : Type} : ∀ {l : List (Str × α)} {x : Str}, x ∉ l.map (·.1) → l.lookup x = none
  | [], _, _ => rfl
  | (y, v) :: r, x, h => by
    rw [List.map_cons, List.mem_cons, not_or] at h
    rw [List.lookup_cons]
    cases q : x == y with
    | true => exact absurd (beq_iff_eq.mp q) h.1
    | false => exact lookup_none h.2
theorem lookup_app {α : Type} : ∀ {l r : List (Str × α)} {x : Str}, (l ++ r).lookup x = (l.lookup x).or (r.lookup x)
  | [], _, _ => by simp
  | (y, v) :: l, r, x => by
    rw [List.cons_append, List.lookup_cons, List.lookup_cons]
    cases x == y with
    | true => rfl
    | false => exact lookup_app

section
variable {M : Model} {A : Around} {E : Value → Shared → Prop} {s : Shared}
theorem lay_env {scope : Scope} {globals : Addr} {closure : List (Str × Addr)} {binds : List (Str × Value)} {qual : Str} {func : Option Addr} {code : Value} {builtins : Addr} {Q : Env → Shared → Prop}
    (hk : scope.kind = .function) (hn : (scope.names.map (·.1)).Nodup) (hkind : ∀ x ∈ binds, scope.names.lookup x.1 = some .local ∨ scope.names.lookup x.1 = some .cell)
    (hQ : ∀ h' tk, Laid s.heap h' s.heap.objs.size (bindL (fun x => scope.names.lookup x) binds fun _ => none) (cellsFrom (s.heap.objs.size + 1) scope.names []) (bindC (fun x => scope.names.lookup x) binds fun _ => none) →
      Q (newEnv scope s.heap.objs.size globals (cellsFrom (s.heap.objs.size + 1) scope.names closure) qual func code none builtins) { s with heap := h', toks := tk }) :
    wpAny M A (newFunctionEnv scope globals closure binds qual func code none builtins) Q E s := by
  simp only [newFunctionEnv, Option.isSome_none, Bool.false_eq_true, if_false]
  refine wpAny_bind (wpAny_alloc ?_)
  refine wpAny_bind (wpAny_layCells _ (fun name kind cells => by cases hkc : kind == NameKind.cell <;> simp [hkc]) _ _ _ _ ?_)
  have ok := cellsFrom_ok scope.names (s.heap.push { cls := .type "frame", data := .dict #[] }) (s.heap.objs.size + 1) [] ⟨fun _ _ hm => (nomatch hm), List.Pairwise.nil⟩ (by rw [Heap.size_push]; exact Nat.le_refl _)
  rw [Heap.size_push] at ok
  rw [show ({ s with heap := s.heap.push { cls := .type "frame", data := .dict #[] } } : Shared).heap.objs.size = s.heap.objs.size + 1 from Heap.size_push ..]
  refine wpAny_bind (lay_binds (h₀ := s.heap) (cs := cellsFrom (s.heap.objs.size + 1) scope.names []) (env := newEnv scope s.heap.objs.size globals (cellsFrom (s.heap.objs.size + 1) scope.names closure) qual func code none builtins)
    hk (fun n c hc => ?_) _ (fun _ _ _ => rfl) binds (fun _ => none) (fun _ => none) _ _ ?_ (fun x hx => ?_) fun h' tk x => wpAny_pure (hQ h' tk x))
  · show (cellsFrom (s.heap.objs.size + 1) scope.names closure).lookup n = some c
    rw [cellsFrom_app, lookup_app, hc]; rfl
  · exact ⟨fun b o e => pushCells_keeps _ _ b o (Heap.get?_push_of_some _ e), Nat.le_refl _, (Heap.Ns.new s.heap (.type "frame")).keeps (pushCells_keeps _ _), fun n c hm => ⟨(ok.empty n c hm).1, (ok.empty n c hm).2⟩, ok.apart, by rw [cellsFrom_fst]; exact cellNames_nodup hn⟩
  · rcases hkind x hx with h | h
    · exact .inl h
    · refine .inr ⟨h, lookup_isSome ?_⟩
      rw [cellsFrom_fst, mem_cellNames]
      exact mem_of_lookup h
end

theorem bindL_of {k : Str → Option NameKind} {x : Str} : ∀ {b : List (Str × Value)} {m : Str → Option Value}, (b.map (·.1)).Nodup → k x = some .local → bindL k b m x = (b.lookup x).or (m x)
  | [], m, _, _ => by simp [bindL]
  | (n, v) :: r, m, hn, hk => by
    rw [List.map_cons, List.nodup_cons] at hn
    unfold bindL
    rw [bindL_of hn.2 hk, List.lookup_cons]
    cases q : x == n with
    | true =>
      have := beq_iff_eq.mp q
      subst this
      rw [lookup_none hn.1, if_pos hk]; simp
    | false =>
      have : x ≠ n := fun z => by simp [z] at q
      dsimp only
      congr 1
      split <;> simp [this]
theorem bindC_of {k : Str → Option NameKind} {x : Str} : ∀ {b : List (Str × Value)} {m : Str → Option Value}, (b.map (·.1)).Nodup → k x ≠ some .local → bindC k b m x = (b.lookup x).or (m x)
  | [], m, _, _ => by simp [bindC]
  | (n, v) :: r, m, hn, hk => by
    rw [List.map_cons, List.nodup_cons] at hn
    unfold bindC
    rw [bindC_of hn.2 hk, List.lookup_cons]
    cases q : x == n with
    | true =>
      have := beq_iff_eq.mp q
      subst this
      rw [lookup_none hn.1, if_neg hk]; simp
    | false =>
      have : x ≠ n := fun z => by simp [z] at q
      dsimp only
      congr 1
      split <;> simp [this]

section
variable {N : Type} {O : Om} {c : Cx N} {A : Around} {env : Env} {T T₀ T₁ : TM N} {Φ : Addr → Option Obj} {ρ ρ₁ : Loc N} {σ : Sto N} {s s₀ s₁ s' : Shared}

noncomputable def cellsSto (nm : Str → Option N) (bd : List (Str × V N)) : List Str → Sto N → Sto N
  | [], σ => σ
  | x :: r, σ => match nm x with
    | some n => (cellsSto nm bd r σ).set n (.cell (bd.lookup x))
    | none => cellsSto nm bd r σ
theorem cellsSto_ne {nm : Str → Option N} {bd : List (Str × V N)} {n : N} : ∀ {l : List Str}, n ∉ l.filterMap nm → cellsSto nm bd l σ n = σ n
  | [], _ => rfl
  | x :: r, h => by
    unfold cellsSto
    rw [List.filterMap_cons] at h
    cases q : nm x with
    | none => rw [q] at h; exact cellsSto_ne h
    | some m =>
      rw [q] at h
      rw [List.mem_cons, not_or] at h
      dsimp only
      rw [Sto.set_ne h.1]
      exact cellsSto_ne h.2

theorem name_cells {h : Heap} {nm : Str → Option N} {bd : List (Str × V N)} {cm : Str → Option Value} (R : Rep O T Φ σ h) (hcm : ∀ x v, bd.lookup x = some v → ∃ a, cm x = some a ∧ VRep O T v a) (hcn : ∀ x, bd.lookup x = none → cm x = none) :
    ∀ cs : List (Str × Addr), (cs.Pairwise fun x y => x.2 ≠ y.2) → (∀ x c, (x, c) ∈ cs → T c = none ∧ Φ c = none ∧ h.IsCell c (cm x)) → ((cs.map (·.1)).filterMap nm).Nodup → (∀ n ∈ (cs.map (·.1)).filterMap nm, σ n = none) →
      ∃ T', T.le T' ∧ Rep O T' Φ (cellsSto nm bd (cs.map (·.1)) σ) h ∧ (∀ b, (∀ p ∈ cs, p.2 ≠ b) → T' b = T b) ∧
        ∀ x c, (x, c) ∈ cs → (∀ n, nm x = some n → T' c = some (.own n)) ∧ (nm x = none → ∀ v a, bd.lookup x = some v → cm x = some a → ∃ o, T' c = some (.fro o) ∧ o.data = .cell (some a))
  | [], _, _, _, _ => ⟨T, TM.le_refl _, R, fun _ _ => rfl, fun _ _ hm => by cases hm⟩
  | (x, a) :: r, hp, hf, hn, hs => by
    obtain ⟨p1, p2⟩ := List.pairwise_cons.mp hp
    have sub : ∀ n, n ∈ (r.map (·.1)).filterMap nm → n ∈ (((x, a) :: r).map (·.1)).filterMap nm := fun n hm => by
      rw [List.map_cons, List.filterMap_cons]
      cases nm x with
      | none => exact hm
      | some m => exact List.mem_cons_of_mem _ hm
    have hn' : ((r.map (·.1)).filterMap nm).Nodup := by
      rw [List.map_cons, List.filterMap_cons] at hn
      cases q : nm x with
      | none => dsimp only at hn; rw [q] at hn; exact hn
      | some m => dsimp only at hn; rw [q] at hn; exact (List.nodup_cons.mp hn).2
    obtain ⟨T₁, le, R₁, off, on⟩ := name_cells R hcm hcn r p2 (fun y d hm => hf y d (List.mem_cons_of_mem _ hm)) hn' fun n hm => hs n (sub n hm)
    obtain ⟨f1, f2, ob, f3, f4⟩ := hf x a List.mem_cons_self
    have hTa : T₁ a = none := (off a fun p hm e => p1 p hm e.symm).trans f1
    rw [List.map_cons]
    unfold cellsSto
    cases q : nm x with
    | some n =>
      have hnn : n ∉ (r.map (·.1)).filterMap nm := by
        rw [List.map_cons, List.filterMap_cons] at hn
        dsimp only at hn; rw [q] at hn; exact (List.nodup_cons.mp hn).1
      have hσ : cellsSto nm bd (r.map (·.1)) σ n = none := by
        rw [cellsSto_ne hnn]
        refine hs n ?_
        rw [List.map_cons, List.filterMap_cons]; dsimp only; rw [q]; exact List.mem_cons_self
      have le' := TM.le_ins (t := Trk.own n) hTa
      refine ⟨T₁.ins a (.own n), TM.le_trans le le', R₁.own_new (fun _ _ e => e) hTa f2 hσ rfl f3 ?_, fun b hb => ?_, fun y d hm => ?_⟩
      · cases q' : bd.lookup x with
        | none => rw [hcn x q'] at f4; exact f4
        | some v =>
          obtain ⟨u, h1, h2⟩ := hcm x v q'
          rw [h1] at f4
          exact ⟨u, f4, (h2.mono le).mono le'⟩
      · rw [TM.ins_ne fun e => hb (x, a) List.mem_cons_self e.symm]
        exact off b fun p hm => hb p (List.mem_cons_of_mem _ hm)
      · rcases List.mem_cons.mp hm with e | hm
        · cases e
          exact ⟨fun m e => by rw [q] at e; cases e; exact TM.ins_self, fun e => by rw [q] at e; cases e⟩
        · have hne : d ≠ a := fun e => p1 (y, d) hm e.symm
          rw [TM.ins_ne hne]
          exact on y d hm
    | none =>
      dsimp only
      cases q' : bd.lookup x with
      | none =>
        refine ⟨T₁, le, R₁, fun b hb => off b fun p hm => hb p (List.mem_cons_of_mem _ hm), fun y d hm => ?_⟩
        rcases List.mem_cons.mp hm with e | hm
        · cases e
          exact ⟨fun m e => (by rw [q] at e; cases e), fun _ v a e => by rw [q'] at e; cases e⟩
        · exact on y d hm
      | some v =>
        have le' := TM.le_ins (t := (Trk.fro ob : Trk N)) hTa
        refine ⟨T₁.ins a (.fro ob), TM.le_trans le le', R₁.ins (fun _ _ e => e) hTa f2 f3 rfl (fun _ => ⟨nofun, nofun⟩), fun b hb => ?_, fun y d hm => ?_⟩
        · rw [TM.ins_ne fun e => hb (x, a) List.mem_cons_self e.symm]
          exact off b fun p hm => hb p (List.mem_cons_of_mem _ hm)
        · rcases List.mem_cons.mp hm with e | hm
          · cases e
            exact ⟨fun m e => (by rw [q] at e; cases e), fun _ v a _ e => ⟨ob, TM.ins_self, by rw [e] at f4; exact f4⟩⟩
          · have hne : d ≠ a := fun e => p1 (y, d) hm e.symm
            rw [TM.ins_ne hne]
            exact on y d hm
end
end Mine
namespace Mine
section
variable {N : Type} {O : Om} {c : Cx N} {A : Around} {env : Env} {T T₀ T₁ : TM N} {Φ : Addr → Option Obj} {ρ ρ₁ : Loc N} {σ σ' : Sto N} {s s₀ s₁ s' : Shared}

noncomputable def frAdd (Φ : Addr → Option Obj) (L : Addr) (o : Obj) : Addr → Option Obj := fun a => open Classical in if a = L then some o else Φ a
theorem frAdd_self {L : Addr} {o : Obj} : frAdd Φ L o L = some o := by simp [frAdd]
theorem frAdd_ne {L a : Addr} {o : Obj} (h : a ≠ L) : frAdd Φ L o a = Φ a := by simp [frAdd, h]

def locOf (scope : Scope) (bd : List (Str × V N)) : Loc N := fun i => match scope.names[i]? with
  | some (x, .local) => bd.lookup x
  | _ => none
def kapOf (scope : Scope) (nm : Str → Option N) (bd : List (Str × V N)) (caps : List (V N)) : Nat → Option (V N) := fun i => match scope.names[i]? with
  | some (x, .cell) => (match nm x with
    | some n => some (.cel n)
    | none => (match bd.lookup x with
      | some v => if v.isCel then none else some v
      | none => none))
  | some (x, .free) => ((capNames scope.names).zip caps).lookup x
  | _ => none

theorem caps_lookup {x : Str} {v : V N} : ∀ {ns : List Str} {caps : List (V N)} {cls : List (Str × Addr)}, cls.map (·.1) = ns → Caps O T caps (cls.map (·.2)) → (ns.zip caps).lookup x = some v → ∃ a, cls.lookup x = some a ∧ CellOk O T v a
  | [], _, _, _, _, h => by simp at h
  | n :: ns, [], _, _, _, h => by simp at h
  | n :: ns, u :: caps, cls, h1, h2, h3 => by
    cases cls with
    | nil => cases h1
    | cons p cls =>
      obtain ⟨y, a⟩ := p
      rw [List.map_cons] at h1
      obtain ⟨e1, e2⟩ := List.cons.inj h1
      have e1 : y = n := e1
      subst e1
      unfold Caps at h2
      obtain ⟨x', xs, e, h2, h4⟩ := h2
      rw [List.map_cons] at e
      obtain ⟨rfl, rfl⟩ := List.cons.inj e
      rw [List.zip_cons_cons, List.lookup_cons] at h3
      rw [List.lookup_cons]
      cases q : x == y with
      | true => rw [q] at h3; cases h3; exact ⟨a, rfl, h2⟩
      | false => rw [q] at h3; exact caps_lookup e2 h4 h3
theorem preps_fst : ∀ {bd : List (Str × V N)} {binds : List (Str × Value)}, PReps O T bd binds → binds.map (·.1) = bd.map (·.1)
  | [], _, h => by unfold PReps at h; subst h; rfl
  | p :: ps, _, h => by obtain ⟨x, xs, rfl, a, b⟩ := h; rw [List.map_cons, List.map_cons, preps_fst b]
theorem not_cell_of_free {names : List (Str × NameKind)} (hn : (names.map (·.1)).Nodup) {i : Nat} {x : Str} (h : names[i]? = some (x, .free)) : x ∉ cellNames names := fun q => by
  obtain ⟨j, hj⟩ := List.getElem?_of_mem (mem_cellNames.mp q)
  have := nodup_at hn h hj
  subst this
  rw [h] at hj; cases hj

theorem enter (hA : At O c A env T Φ ρ σ s) {h' : Heap} {tk : Tok} {fc : FC} {closure : List (Str × Addr)} {binds : List (Str × Value)} {bd : List (Str × V N)} {caps : List (V N)} {nm : Str → Option N} {a : Addr} {cd : Value} {D' : Nat}
    (hx : Laid s.heap h' s.heap.objs.size (bindL (fun x => fc.scope.names.lookup x) binds fun _ => none) (cellsFrom (s.heap.objs.size + 1) fc.scope.names []) (bindC (fun x => fc.scope.names.lookup x) binds fun _ => none))
    (hb : PReps O T bd binds) (hbn : (bd.map (·.1)).Nodup) (hk : fc.scope.kind = .function) (hco : fc.scope.isCoroutine = false) (hnd : (fc.scope.names.map (·.1)).Nodup)
    (hc1 : closure.map (·.1) = capNames fc.scope.names) (hc2 : Caps O T caps (closure.map (·.2)))
    (hnm : ((cellNames fc.scope.names).filterMap nm).Nodup) (hns : ∀ n ∈ (cellNames fc.scope.names).filterMap nm, σ n = none) (hcd : fc.nest = true → CodeN T cd) (hD : c.D = D' + 1) :
    ∃ T' o, T.le T' ∧ s.heap.get? env.locals = some o ∧
      At O ⟨fc, kapOf fc.scope nm bd caps, D', c.hd⟩ (A.deeper (newEnv fc.scope s.heap.objs.size mainGlobals (cellsFrom (s.heap.objs.size + 1) fc.scope.names closure) fc.qual (some a) cd none builtinsNs))
        (newEnv fc.scope s.heap.objs.size mainGlobals (cellsFrom (s.heap.objs.size + 1) fc.scope.names closure) fc.qual (some a) cd none builtinsNs)
        T' (frAdd Φ env.locals o) (locOf fc.scope bd) (cellsSto nm bd (cellNames fc.scope.names) σ) { s with heap := h', toks := tk } := by
  obtain ⟨m, hm, hρ⟩ := hA.fr.ns
  have hlt := hm.lt
  obtain ⟨oL, es, ep, hL, hLd, hLk, hLf⟩ := id hm
  have R₀ : Rep O T (frAdd Φ env.locals oL) σ s.heap := by
    refine ⟨hA.rep.trk, fun b o e => ?_, hA.rep.own, hA.rep.inj, hA.rep.pin, hA.rep.base, hA.rep.tabs, hA.rep.noted⟩
    by_cases q : b = env.locals
    · subst q
      rw [frAdd_self] at e; cases e
      exact ⟨hA.fr.fresh, fun _ => hL, oL.slots, hL⟩
    · rw [frAdd_ne q] at e; exact hA.rep.frs b o e
  have R₁ := R₀.keeps hx.keep
  have hfst := preps_fst hb
  have hbn' : (binds.map (·.1)).Nodup := by rw [hfst]; exact hbn
  have hfresh : ∀ x cc, (x, cc) ∈ cellsFrom (s.heap.objs.size + 1) fc.scope.names [] → T cc = none ∧ frAdd Φ env.locals oL cc = none ∧ h'.IsCell cc (bindC (fun x => fc.scope.names.lookup x) binds (fun _ => none) x) := fun x cc hmem => by
    obtain ⟨p1, p2⟩ := hx.cell x cc hmem
    have hge : s.heap.objs.size ≤ cc := Nat.le_of_lt p2
    exact ⟨hA.rep.above_none hge, by rw [frAdd_ne (fun e => by rw [e] at hge; exact Nat.lt_irrefl _ (Nat.lt_of_lt_of_le hlt hge))]; exact hA.rep.above_none_fr hge, p1⟩
  have isc : ∀ x cc, (x, cc) ∈ cellsFrom (s.heap.objs.size + 1) fc.scope.names [] → fc.scope.names.lookup x = some .cell := fun x cc hmem => by
    have : x ∈ cellNames fc.scope.names := by rw [← cellsFrom_fst _ (s.heap.objs.size + 1)]; exact List.mem_map.mpr ⟨_, hmem, rfl⟩
    obtain ⟨j, hj⟩ := List.getElem?_of_mem (mem_cellNames.mp this)
    exact nodup_lookup hnd hj
  have cmv : ∀ x, fc.scope.names.lookup x = some .cell → bindC (fun x => fc.scope.names.lookup x) binds (fun _ => none) x = binds.lookup x := fun x hc => by
    rw [bindC_of hbn' (by rw [hc]; decide)]; simp
  obtain ⟨T', le, R', off, on⟩ := name_cells (nm := nm) (bd := bd) (cm := fun x => binds.lookup x) R₁ (fun x v e => (hb.lookup x).1 v e) (fun x e => (hb.lookup x).2 e) _ hx.apart (fun x cc hmem => by
    obtain ⟨p1, p2, p3⟩ := hfresh x cc hmem
    rw [cmv x (isc x cc hmem)] at p3
    exact ⟨p1, p2, p3⟩) (by rw [cellsFrom_fst]; exact hnm) (by rw [cellsFrom_fst]; exact hns)
  rw [cellsFrom_fst] at R'
  have hneL : env.locals ≠ s.heap.objs.size := Nat.ne_of_lt hlt
  refine ⟨T', oL, le, hL, R', ⟨?_, ?_, ?_⟩, ?_⟩
  · show T' s.heap.objs.size = none
    rw [off _ fun p hp e => Nat.lt_irrefl _ (e ▸ (hx.cell p.1 p.2 hp).2)]
    exact hA.rep.size_none
  · show frAdd Φ env.locals oL s.heap.objs.size = none
    rw [frAdd_ne (Ne.symm hneL)]; exact hA.rep.size_none_fr
  · refine ⟨_, hx.ns, fun i v e => ?_⟩
    unfold locOf at e
    cases q : fc.scope.names[i]? with
    | none => rw [q] at e; cases e
    | some p =>
      obtain ⟨x, k⟩ := p
      rw [q] at e
      cases k with
      | «local» =>
        dsimp only at e
        obtain ⟨y, h1, h2⟩ := (hb.lookup x).1 v e
        refine ⟨x, y, q, ?_, h2.mono le⟩
        rw [bindL_of hbn' (nodup_lookup hnd q), h1]; rfl
      | _ => cases e
  · obtain ⟨e0, l, f1, f2, f3⟩ := hA.env.frames
    refine ⟨rfl, hk, hnd, hco, rfl, rfl, rfl, fun i v e => ?_, fun h => (hcd h).mono le, ⟨_, e0 :: l, by show A.frames.map _ = _; rw [f1]; rfl, rfl, fun e he => ?_⟩, hA.env.hdok.mono le, ?_, ?_⟩
    · show ∃ x k a, fc.at i x k ∧ (k = .cell ∨ k = .free) ∧ (cellsFrom (s.heap.objs.size + 1) fc.scope.names closure).lookup x = some a ∧ CellOk O T' v a
      have e : kapOf fc.scope nm bd caps i = some v := e
      unfold kapOf at e
      cases q : fc.scope.names[i]? with
      | none => rw [q] at e; cases e
      | some p =>
        obtain ⟨x, k⟩ := p
        rw [q] at e
        cases k with
        | cell =>
          have hxm : x ∈ cellNames fc.scope.names := mem_cellNames.mpr (List.mem_of_getElem? q)
          obtain ⟨cc, hcc⟩ := Option.isSome_iff_exists.mp (lookup_isSome (l := cellsFrom (s.heap.objs.size + 1) fc.scope.names []) (x := x) (by rw [cellsFrom_fst]; exact hxm))
          refine ⟨x, .cell, cc, q, .inl rfl, by rw [cellsFrom_app, lookup_app, hcc]; rfl, ?_⟩
          obtain ⟨o1, o2⟩ := on x cc (mem_of_lookup hcc)
          dsimp only at e
          cases qn : nm x with
          | some n => rw [qn] at e; cases e; exact .inl ⟨n, rfl, o1 n qn⟩
          | none =>
            rw [qn] at e
            dsimp only at e
            cases qb : bd.lookup x with
            | none => rw [qb] at e; cases e
            | some u =>
              rw [qb] at e
              dsimp only at e
              split at e
              · cases e
              · rename_i hcel
                cases e
                obtain ⟨y, h1, h2⟩ := (hb.lookup x).1 v qb
                obtain ⟨o, h3, h4⟩ := o2 qn v y qb h1
                exact .inr ⟨y, o, by simpa using hcel, h2.mono le, h3, h4⟩
        | free =>
          dsimp only at e
          obtain ⟨cc, h1, h2⟩ := caps_lookup hc1 hc2 e
          refine ⟨x, .free, cc, q, .inr rfl, ?_, h2.mono le⟩
          rw [cellsFrom_app, lookup_app, lookup_none, h1]; rfl
          rw [cellsFrom_fst]; exact not_cell_of_free hnd q
        | _ => cases e
    · rcases List.mem_cons.mp he with rfl | he
      · exact ⟨by show fc.scope.kind ≠ _; rw [hk]; decide, _, rfl, .inl rfl⟩
      · obtain ⟨g1, L, g2, g3⟩ := f3 e he
        refine ⟨g1, L, g2, .inr ?_⟩
        by_cases q : L = env.locals
        · subst q; exact ⟨_, frAdd_self, (fun vs e => by rw [hLd] at e; cases e), fun xs n e => by rw [hLd] at e; cases e⟩
        · rw [frAdd_ne q]
          rcases g3 with g3 | g3
          · exact absurd g3 q
          · exact g3
    · have := hA.env.depth; show A.depth + 1 + D' < _; omega
    · have := hA.env.units; show A.units + 3 + 40 * D' < _; omega

theorem leave (hA : At O c A env T Φ ρ σ s) {o : Obj} (ho : s.heap.get? env.locals = some o) (le : T.le T₁) (h : Rep O T₁ (frAdd Φ env.locals o) σ' s'.heap) : At O c A env T₁ Φ ρ σ' s' := by
  obtain ⟨m, ⟨oL, es, ep, hL, hLd, hLk, hLf⟩, hρ⟩ := hA.fr.ns
  rw [ho] at hL; cases hL
  obtain ⟨f1, f2, sl, f3⟩ := h.frs env.locals o frAdd_self
  refine ⟨⟨h.trk, fun b x e => h.frs b x ?_, h.own, h.inj, h.pin, h.base, h.tabs, h.noted⟩, ⟨f1, hA.fr.off, m, ⟨_, es, ep, f3, hLd, hLk, hLf⟩, fun i v e => ?_⟩, hA.env.mono le⟩
  · rw [frAdd_ne fun q => by rw [q, hA.fr.off] at e; cases e]; exact e
  · obtain ⟨x, val, p, q, r⟩ := hρ i v e
    exact ⟨x, val, p, q, r.mono le⟩

def flowVal (f : Flow) : Value := match f with
  | .ret v => v
  | _ => .none
def AF.val : AF N → V N
  | .ret v => v
  | _ => .none

abbrev MB := List MS ⊕ ME
def CB (O : Om) (fc : FC) : FuncBody → MB → Prop
  | .stmts b, .inl ms => CSs O fc b ms
  | .expr e, .inr m => CE O fc e m
  | _, _ => False
def ABd (O : Om) (c : Cx N) (b : MB) (ρ : Loc N) (σ : Sto N) (Q X : V N → Sto N → Prop) : Prop := match b with
  | .inl ms => AX O c ms ρ σ (fun af _ σ => Q af.val σ) (fun v _ σ => X v σ)
  | .inr m => AE O c m ρ σ Q X

structure RowOk (r : CodeRow) (ns : List Str) : Prop where
  posonly : r.params.posonlyargs = []
  args : r.params.args.map (·.arg) = ns
  kwonly : r.params.kwonlyargs = []
  vararg : r.params.vararg = Option.none
  kwarg : r.params.kwarg = Option.none
  kind : r.scope.kind = .function
  gen : r.scope.isGenerator = false
  co : r.scope.isCoroutine = false
  nodup : (r.scope.names.map (·.1)).Nodup
  nsd : ns.Nodup
  nsk : ∀ n ∈ ns, r.scope.names.lookup n = some .local ∨ r.scope.names.lookup n = some .cell

structure FdOk (O : Om) (T : TM N) (h : Heap) (fd : FuncData) (r : CodeRow) (nest : Bool) (ds caps : List (V N)) : Prop where
  params : fd.params = r.params
  body : fd.body = r.body
  scope : fd.scope = r.scope
  qual : fd.qualname = r.qual
  globals : fd.globals = mainGlobals
  builtins : fd.builtins = builtinsNs
  dflt : ∃ dvs, DfltsAre h fd.defaults dvs ∧ VReps O T ds dvs
  code : h.CodeRec fd.code r.qual
  nest : nest = true → CodeN T fd.code
  clo1 : fd.closure.map (·.1) = capNames r.scope.names
  clo2 : Caps O T caps (fd.closure.map (·.2))

theorem addD_nodup {α : Type} : ∀ {l S : List (Str × α)}, (S.map (·.1)).Nodup → ((addD S l).map (·.1)).Nodup
  | [], S, h => h
  | (n, d) :: r, S, h => by
    unfold addD
    split
    · rename_i q
      refine addD_nodup ?_
      rw [List.map_append, List.nodup_append]
      refine ⟨h, by simp, fun a ha b hb => ?_⟩
      simp at hb
      subst hb
      rintro rfl
      have := lookup_isSome ha
      rw [Option.isNone_iff_eq_none.mp q] at this
      cases this
    · exact addD_nodup h
theorem bindP_names {α : Type} {ns : List Str} {ds pos : List α} {kw : List (Str × α)} (h : ns.Nodup) : ((bindP ns ds pos kw).map (·.1)).Nodup ∧ ∀ x ∈ (bindP ns ds pos kw).map (·.1), x ∈ ns := by
  have key : ∀ (S : List (Str × α)), List.Sublist ((ns.filterMap fun n => (S.lookup n).map fun v => (n, v)).map (·.1)) ns := fun S => by
    induction ns with
    | nil => exact List.Sublist.refl _
    | cons n ns ih =>
      rw [List.filterMap_cons]
      cases S.lookup n with
      | none => exact (ih (List.nodup_cons.mp h).2).cons _
      | some v => exact (ih (List.nodup_cons.mp h).2).cons₂ _
  exact ⟨(key _).nodup h, fun x hx => (key _).subset hx⟩

theorem call_fd {as us : List (V N)} {avs kvs : List Value} {kn : List Str} {a : Addr} {o : Obj} {fd : FuncData} {r : CodeRow} {nest : Bool} {ds caps : List (V N)} {ns : List Str} {nm : Str → Option N} {D' : Nat} {b : MB} {Q X : V N → Sto N → Prop}
    (ok : O.Ok) (hA : At O c A env T Φ ρ σ s) (ho : s.heap.get? a = some o) (hd : o.data = .func fd) (F : FdOk O T s.heap fd r nest ds caps) (R : RowOk r ns) (has : VReps O T as avs) (hus : VReps O T us kvs)
    (hb : bindOk ns ds.length as (kn.zip us) = true) (hnm : ((cellNames r.scope.names).filterMap nm).Nodup) (hns : ∀ n ∈ (cellNames r.scope.names).filterMap nm, σ n = none) (hD : c.D = D' + 1)
    (hcb : CB O ⟨r.scope, r.qual ++ (".<locals>." : Str), nest⟩ r.body b)
    (h : ABd O ⟨⟨r.scope, r.qual ++ (".<locals>." : Str), nest⟩, kapOf r.scope nm (bindP ns ds as (kn.zip us)) caps, D', c.hd⟩ b (locOf r.scope (bindP ns ds as (kn.zip us))) (cellsSto nm (bindP ns ds as (kn.zip us)) (cellNames r.scope.names) σ) Q X) :
    codeAny (model O.prog O.w) A (.call (.ref a) ⟨avs, kn.zip kvs⟩) (ResP (Post O c A env Φ ρ T s Q) (PostY O c A env Φ ρ T s X)) s := by
  obtain ⟨dvs, d1, d2⟩ := F.dflt
  have hroom : A.depth < recursionLimit := by have := hA.env.depth; omega
  have hbr := bindP_rep (ns := ns) (kn := kn) d2 has hus
  have hbind := binds_ok (fd := fd) (by rw [F.params]; exact R.posonly) (by rw [F.params]; exact R.args) (by rw [F.params]; exact R.kwonly) (by rw [F.params]; exact R.vararg) (by rw [F.params]; exact R.kwarg) d1
    (by rw [d2.length, bindOk_rep has hus]; exact hb : bindOk ns dvs.length avs (kn.zip kvs) = true)
  obtain ⟨bn1, bn2⟩ := bindP_names (ds := ds) (pos := as) (kw := kn.zip us) R.nsd
  have hrs : ∀ x ∈ bindP ns dvs avs (kn.zip kvs), r.scope.names.lookup x.1 = some .local ∨ r.scope.names.lookup x.1 = some .cell := fun x hx => R.nsk x.1 (bn2 _ (by rw [← preps_fst hbr]; exact List.mem_map.mpr ⟨x, hx, rfl⟩))
  -- the body, from within
  have main : ∀ h' tk, Laid s.heap h' s.heap.objs.size (bindL (fun x => r.scope.names.lookup x) (bindP ns dvs avs (kn.zip kvs)) fun _ => none) (cellsFrom (s.heap.objs.size + 1) r.scope.names []) (bindC (fun x => r.scope.names.lookup x) (bindP ns dvs avs (kn.zip kvs)) fun _ => none) →
      ({ s with heap := h', toks := tk } : Shared).heap.NoLimit ∧ ∀ env', env' = newEnv r.scope s.heap.objs.size mainGlobals (cellsFrom (s.heap.objs.size + 1) r.scope.names fd.closure) (r.qual ++ (".<locals>." : Str)) (some a) fd.code none builtinsNs →
      ∃ T' ox, T.le T' ∧ s.heap.get? env.locals = some ox ∧ At O ⟨⟨r.scope, r.qual ++ (".<locals>." : Str), nest⟩, kapOf r.scope nm (bindP ns ds as (kn.zip us)) caps, D', c.hd⟩ (A.deeper env') env' T' (frAdd Φ env.locals ox) (locOf r.scope (bindP ns ds as (kn.zip us)))
        (cellsSto nm (bindP ns ds as (kn.zip us)) (cellNames r.scope.names) σ) { s with heap := h', toks := tk } := fun h' tk hx => by
    refine ⟨(hA.top ok).nolimit.keeps hx.keep, fun env' he => ?_⟩
    subst he
    exact enter (fc := ⟨r.scope, r.qual ++ (".<locals>." : Str), nest⟩) hA hx hbr bn1 R.kind R.co R.nodup F.clo1 F.clo2 hnm hns F.nest hD
  have back : ∀ {env' : Env} {T' T'' : TM N} {ox : Obj} {c' : Cx N} {ρ' : Loc N} {σ' : Sto N} {s'' : Shared}, T.le T' → s.heap.get? env.locals = some ox → T'.le T'' → At O c' (A.deeper env') env' T'' (frAdd Φ env.locals ox) ρ' σ' s'' → At O c A env T'' Φ ρ σ' s'' :=
    fun le ho le' h => leave hA ho (TM.le_trans le le') h.rep
  cases hbody : r.body with
  | stmts body =>
    cases b with
    | inr m => rw [hbody] at hcb; exact hcb.elim
    | inl ms =>
      rw [hbody] at hcb
      refine codeAny_call_function hroom ho hd (by rw [F.scope]; exact R.co) (by rw [F.scope]; exact R.gen) (by rw [F.body]; exact hbody) (by rw [F.qual]; exact F.code) (hbind _ _ _ _ ?_)
      rw [F.scope, F.globals, F.qual, F.builtins]
      refine lay_env R.kind R.nodup hrs fun h' tk hx => ?_
      obtain ⟨nl, en⟩ := main h' tk hx
      obtain ⟨T', ox, le, hox, hA'⟩ := en _ rfl
      refine ⟨nl, codeAny_func (wpAny_mono (h _ _ _ _ _ body hcb hA') (fun f s₂ hp => ?_) fun x s₂ hp => leaving_ok hp fun s₃ hn => ?_)⟩
      · obtain ⟨T₂, ρ₂, σ₂, af, le₂, hA₂, hg, hos, hrep, hq⟩ := hp
        have hv : VRep O T₂ af.val (flowVal f) := by
          cases af with
          | ret v => obtain ⟨x, rfl, hx⟩ := hrep; exact hx
          | _ => cases hrep; exact rfl
        exact ⟨T₂, σ₂, af.val, TM.le_trans le le₂, back le hox le₂ hA₂, hg, hos, hv, hq⟩
      · obtain ⟨T₂, ρ₂, σ₂, v, a', le₂, hA₂, hg, hos, he, hv, hex, _, hq⟩ := hn
        exact ⟨T₂, σ₂, v, TM.le_trans le le₂, back le hox le₂ hA₂, hg, hos, hv, hex, hq⟩
  | expr body =>
    cases b with
    | inl ms => rw [hbody] at hcb; exact hcb.elim
    | inr m =>
      rw [hbody] at hcb
      refine kla_callFunE hroom ho hd (by rw [F.scope]; exact R.co) (by rw [F.scope]; exact R.gen) (by rw [F.body]; exact hbody) (by rw [F.qual]; exact F.code) (hbind _ _ _ _ ?_)
      rw [F.scope, F.globals, F.qual, F.builtins]
      refine lay_env R.kind R.nodup hrs fun h' tk hx => ?_
      obtain ⟨nl, en⟩ := main h' tk hx
      obtain ⟨T', ox, le, hox, hA'⟩ := en _ rfl
      refine ⟨nl, kla_codeExpr (wpAny_mono (h _ _ _ _ _ body hcb hA') (fun f s₂ hp => ?_) fun x s₂ hp => leaving_ok (X := fun v _ σ => X v σ) hp.toX fun s₃ hn => ?_)⟩
      · obtain ⟨T₂, σ₂, v, le₂, hA₂, hg, hos, hrep, hq⟩ := hp
        exact ⟨T₂, σ₂, v, TM.le_trans le le₂, back le hox le₂ hA₂, hg, hos, hrep, hq⟩
      · obtain ⟨T₂, ρ₂, σ₂, v, a', le₂, hA₂, hg, hos, he, hv, hex, _, hq⟩ := hn
        exact ⟨T₂, σ₂, v, TM.le_trans le le₂, back le hox le₂ hA₂, hg, hos, hv, hex, hq⟩
end
end Mine
namespace Mine
section
variable {N : Type} {O : Om} {c : Cx N} {A : Around} {env : Env} {T T₀ T₁ : TM N} {Φ : Addr → Option Obj} {ρ ρ₁ : Loc N} {σ σ' : Sto N} {s s₀ s₁ s' : Shared} {M : Model}

/-! calls of what may be called -/
structure FnSt (O : Om) (f : Addr) (r : CodeRow) (nest : Bool) (ds : List (V N)) : Prop where
  at' : ∃ o fd, O.K.lookup f = some o ∧ o.data = .func fd ∧ fd.params = r.params ∧ fd.body = r.body ∧ fd.scope = r.scope ∧ fd.qualname = r.qual ∧ fd.globals = mainGlobals ∧ fd.builtins = builtinsNs ∧ fd.closure = [] ∧ codeIn O.K fd.code r.qual = true ∧
    ((fd.defaults = .none ∧ ds = []) ∨ ∃ a o n dvs, fd.defaults = .ref a ∧ O.K.lookup a = some o ∧ o.data = .seq (List.toArray dvs) n ∧ ∀ T : TM N, (∀ b o, O.B.get? b = some o → T b = some (.fro o)) → VReps O T ds dvs) ∧
    (nest = true → ∃ c P o vs file tf flags tg inF text tt, fd.code = .ref c ∧ O.K.lookup c = some o ∧ P ∈ O.tabs ∧ o.cls = .type "code" ∧ o.data = .fields vs ∧ vs[11]? = some (.ref P) ∧ vs.getD 11 .none = .ref P ∧ vs.getD 18 .none = .str file tf ∧
      vs.getD 7 .none = .int flags tg ∧ vs.getD 9 .none = .bool inF ∧ vs.getD 10 .none = .int text tt ∧ c ≠ P)
  free : capNames r.scope.names = []

theorem FnSt.fd {f : Addr} {r : CodeRow} {nest : Bool} {ds : List (V N)} (ok : O.Ok) (F : FnSt O f r nest ds) (hA : At O c A env T Φ ρ σ s) : ∃ o fd, s.heap.get? f = some o ∧ o.data = .func fd ∧ FdOk O T s.heap fd r nest ds [] := by
  obtain ⟨o, fd, h1, h2, h3, h4, h5, h6, h7, h8, h9, h10, h11, h12⟩ := F.at'
  have X := hA.K ok
  refine ⟨o, fd, X _ _ h1, h2, h3, h4, h5, h6, h7, h8, ?_, codeRec_of X h10, fun hn => ?_, by rw [h9, F.free]; rfl, by rw [h9]; unfold Caps; rfl⟩
  · rcases h11 with ⟨a, rfl⟩ | ⟨a, o, n, dvs, a1, a2, a3, a4⟩
    · exact ⟨[], .inl ⟨a, rfl⟩, .nil⟩
    · exact ⟨dvs, .inr ⟨a, o, n, a1, X _ _ a2, a3⟩, a4 T hA.rep.base⟩
  · obtain ⟨cc, P, o, vs, f1, f2, f3, f4, f5, f6, f7, b1, b2, b3, b4⟩ := h12 hn
    exact ⟨cc, P, o, vs, f1, f2, f3, f4, f5, f6, f7, b1, hA.rep.base _ _ (ok.K _ _ b2), hA.rep.tabs _ b3, b4⟩

theorem PCc.fn {f : Addr} {r : CodeRow} {nest : Bool} {ds as us : List (V N)} {ns kn : List Str} {nm : Str → Option N} {D' : Nat} {b : MB} {Q X : V N → Sto N → Prop} (ok : O.Ok) (F : FnSt O f r nest ds) (R : RowOk r ns)
    (hcb : CB O ⟨r.scope, r.qual ++ (".<locals>." : Str), nest⟩ r.body b) (hD : c.D = D' + 1) (hb : bindOk ns ds.length as (kn.zip us) = true) (hnm : ((cellNames r.scope.names).filterMap nm).Nodup) (hns : ∀ n ∈ (cellNames r.scope.names).filterMap nm, σ n = none)
    (h : ABd O ⟨⟨r.scope, r.qual ++ (".<locals>." : Str), nest⟩, kapOf r.scope nm (bindP ns ds as (kn.zip us)) [], D', c.hd⟩ b (locOf r.scope (bindP ns ds as (kn.zip us))) (cellsSto nm (bindP ns ds as (kn.zip us)) (cellNames r.scope.names) σ) Q X) :
    PCc O c (.st (.ref f)) as kn us ρ σ Q X := by
  refine ⟨?_, fun A env T Φ s fv avs kvs hA hf has hus => ?_⟩
  · obtain ⟨o, fd, h1, h2, _⟩ := F.at'
    exact ⟨o, h1, .inl ⟨fd, h2⟩⟩
  · unfold VRep at hf; subst hf
    obtain ⟨o, fd, h1, h2, h3⟩ := F.fd ok hA
    exact call_fd ok hA h1 h2 h3 R has hus hb hnm hns hD hcb h

theorem PCc.clo {k : Nat} {caps : List (V N)} {r : CodeRow} {nest : Bool} {as us : List (V N)} {ns kn : List Str} {nm : Str → Option N} {D' : Nat} {b : MB} {Q X : V N → Sto N → Prop} (ok : O.Ok) (hk : O.code k = some r) (R : RowOk r ns)
    (hcb : CB O ⟨r.scope, r.qual ++ (".<locals>." : Str), nest⟩ r.body b) (hD : c.D = D' + 1) (hb : bindOk ns 0 as (kn.zip us) = true) (hnm : ((cellNames r.scope.names).filterMap nm).Nodup) (hns : ∀ n ∈ (cellNames r.scope.names).filterMap nm, σ n = none)
    (h : ABd O ⟨⟨r.scope, r.qual ++ (".<locals>." : Str), nest⟩, kapOf r.scope nm (bindP ns [] as (kn.zip us)) caps, D', c.hd⟩ b (locOf r.scope (bindP ns [] as (kn.zip us))) (cellsSto nm (bindP ns [] as (kn.zip us)) (cellNames r.scope.names) σ) Q X) :
    PCc O c (.clo k caps) as kn us ρ σ Q X := by
  refine ⟨trivial, fun A env T Φ s fv avs kvs hA hf has hus => ?_⟩
  unfold VRep at hf
  obtain ⟨a, r', cls, doc, pm, cd, ct, rfl, h1, h2, h3, h4, h5, h6⟩ := hf
  rw [hk] at h1; cases h1
  obtain ⟨cc, oc, vs, t, g1, g2, g3⟩ := id h3
  exact call_fd ok hA (hA.fro h2) rfl (fd := { name := r.name, qualname := r.qual, params := r.params, body := r.body, scope := r.scope, globals := mainGlobals, closure := cls, defaults := .none, kwdefaults := .none, doc, pyModule := pm, annotations := Option.none, code := cd, closureTuple := ct, builtins := builtinsNs })
    ⟨rfl, rfl, rfl, rfl, rfl, rfl, ⟨[], .inl ⟨rfl, rfl⟩, .nil⟩, ⟨cc, oc, vs, t, g1, hA.fro g2, g3⟩, fun _ => h4, h5, h6⟩ R has hus hb hnm hns hD hcb h

theorem PCc.meth {f sv : V N} {as us : List (V N)} {kn : List Str} {Q X : V N → Sto N → Prop} (hk : KeepOk O (.meth f sv)) (h : PCc O c f (sv :: as) kn us ρ σ Q X) : PCc O c (.meth f sv) as kn us ρ σ Q X := by
  refine ⟨hk, fun A env T Φ s fv avs kvs hA hf has hus => ?_⟩
  unfold VRep at hf
  obtain ⟨a, gv, wv, rfl, h1, h2, h3⟩ := hf
  refine codeAny_of_tree ?_
  show wpAny _ A.in1 (callAny (.ref a) ⟨avs, kn.zip kvs⟩) _ _ s
  simp only [callAny]
  refine wpAny_bind (wpAny_load (hA.fro h1) ?_)
  dsimp only
  rw [if_pos (by simp)]
  have key := h.2 A env T Φ s gv (wv :: avs) kvs hA h2 (.cons h3 has) hus
  cases gv with
  | builtin id =>
    show wpAny _ _ (if _ then _ else _) _ _ s
    rw [if_neg (by simp)]
    exact wpAny_pure (And.intro rfl key)
  | _ => exact wpAny_pure (And.intro rfl key)

/-! a function made on the way -/
section
variable {E : Value → Shared → Prop} {name qual : Str} {params : Arguments} {body : FuncBody} {scope : Scope} {cc P : Addr} {ps : Array Value} {pos : Pos} {firstLine : Nat} {mg : Str → Option Value} {clos : List (Str × Addr)} {Q : Value → Shared → Prop}
theorem mk_new (hcl : closureFor scope env = pure clos) (hge0 : env.globals = mainGlobals) (hg : s.heap.Ns mainGlobals mg) (hcode : env.code = .ref cc) (hP : ∀ h' : Heap, (∀ b o, s.heap.get? b = some o → h'.get? b = some o) → h'.IsCode cc P ps ∧ h'.TableAt cc P ps)
    (hnf : codeAmong pos ps.toList = none) (hgP : mainGlobals ≠ P) (hb : s.heap.BuiltinsAt mg P)
    (h : ∀ c' P' ctv doc h' tk, Heap.ExtBut P s.heap h' → s.heap.objs.size ≤ c' → s.heap.objs.size ≤ P' → h'.CodeRec (.ref c') qual → h'.get? P = some (tabObj (ps ++ #[rawInt pos.line, rawInt pos.col, .ref c'])) → h'.IsCode c' P' #[] → h'.TableAt c' P' #[] →
      Q (.ref h'.objs.size) { s with heap := h'.push (fnRow ⟨name, qual, params, body, scope⟩ clos doc ((mg "__name__").getD .none) (.ref c') ctv), toks := tk }) :
    wpAny M A (makeTail name qual params body scope env .none .none none pos firstLine) Q E s := by
  obtain ⟨bm, ob, hbm, hne0, _, hneP, hbo, hcls, hdict, hdata⟩ := hb
  unfold makeTail
  rw [hcl, hge0]
  refine wpAny_bind (wpAny_pure ?_)
  have fin : ∀ (ctv : Value) (h₁ : Heap), (∀ b o, s.heap.get? b = some o → h₁.get? b = some o) → s.heap.objs.size ≤ h₁.objs.size → wpAny M A (do
      let code ← functionCode env pos firstLine name qual params scope body
      let bu ← builtinsFor mainGlobals env.builtins
      let nm ← nsGet mainGlobals "__name__"
      let doc ← match body with
        | .stmts b => (match docOf b with | some s => mkText s | none => pure .none)
        | .expr _ => pure .none
      newObj (.type "function") (.func { name, qualname := qual, params, body, scope, globals := mainGlobals, closure := clos, closureTuple := ctv, code, builtins := bu, defaults := .none, kwdefaults := .none, annotations := none, pyModule := nm.getD .none, doc })) Q E { s with heap := h₁ } := by
    intro ctv h₁ hk hsz
    obtain ⟨i1, i2⟩ := hP h₁ hk
    refine wpAny_bind (wpAny_functionCodeX hcode i1 i2 hnf fun c' h' tk hx hge hlt _ hrec htb hnew => ?_)
    obtain ⟨P', p1, p2, p3⟩ := hnew
    have hx' : Heap.ExtBut P s.heap h' := fun b o hb' e => hx b o hb' (hk b o e)
    have hg' := hg.extBut hx' hgP
    refine wpAny_bind (wpAny_builtinsFor hg' hbm hne0 (hx' _ _ hneP hbo) hcls hdict hdata ?_)
    refine wpAny_bind (wpAny_nsGet hg' ?_)
    have ge' := Nat.le_trans hsz hge
    have gp' := Nat.le_trans hsz p1
    cases body with
    | expr e => exact wpAny_bind (wpAny_pure (wpAny_newObj_type (h c' P' ctv .none h' tk hx' ge' gp' hrec htb.2 p2 p3) (by size_fits)))
    | stmts b =>
      dsimp only
      cases hdoc : docOf b with
      | none => exact wpAny_bind (wpAny_pure (wpAny_newObj_type (h c' P' ctv .none h' tk hx' ge' gp' hrec htb.2 p2 p3) (by size_fits)))
      | some t => exact wpAny_bind (wpAny_mkText (wpAny_newObj_type (h c' P' ctv _ h' _ hx' ge' gp' hrec htb.2 p2 p3) (by size_fits)))
  cases clos with
  | nil =>
    simp only [List.isEmpty_nil, if_true]
    exact wpAny_bind (wpAny_pure (fin .none s.heap (fun _ _ e => e) (Nat.le_refl _)))
  | cons q r =>
    simp only [List.isEmpty_cons, Bool.false_eq_true, if_false]
    exact wpAny_bind (wpAny_newTextTuple (fin _ _ (fun b o e => Heap.get?_push_of_some _ e) (by rw [Heap.size_push]; omega)))
theorem mk_hit {cv : Value} (hcl : closureFor scope env = pure clos) (hge0 : env.globals = mainGlobals) (hg : s.heap.Ns mainGlobals mg) (hcode : env.code = .ref cc) (hP : ∀ h' : Heap, (∀ b o, s.heap.get? b = some o → h'.get? b = some o) → h'.IsCode cc P ps)
    (hf : codeAmong pos ps.toList = some cv) (hb : s.heap.BuiltinsAt mg P)
    (h : ∀ (ctv doc : Value) (h' : Heap) (tk : Tok), (∀ b o, s.heap.get? b = some o → h'.get? b = some o) → s.heap.objs.size ≤ h'.objs.size →
      Q (.ref h'.objs.size) { s with heap := h'.push (fnRow ⟨name, qual, params, body, scope⟩ clos doc ((mg "__name__").getD .none) cv ctv), toks := tk }) :
    wpAny M A (makeTail name qual params body scope env .none .none none pos firstLine) Q E s := by
  obtain ⟨bm, ob, hbm, hne0, _, hneP, hbo, hcls, hdict, hdata⟩ := hb
  unfold makeTail
  rw [hcl, hge0]
  refine wpAny_bind (wpAny_pure ?_)
  have fin : ∀ (ctv : Value) (h₁ : Heap), (∀ b o, s.heap.get? b = some o → h₁.get? b = some o) → s.heap.objs.size ≤ h₁.objs.size → wpAny M A (do
      let code ← functionCode env pos firstLine name qual params scope body
      let bu ← builtinsFor mainGlobals env.builtins
      let nm ← nsGet mainGlobals "__name__"
      let doc ← match body with
        | .stmts b => (match docOf b with | some s => mkText s | none => pure .none)
        | .expr _ => pure .none
      newObj (.type "function") (.func { name, qualname := qual, params, body, scope, globals := mainGlobals, closure := clos, closureTuple := ctv, code, builtins := bu, defaults := .none, kwdefaults := .none, annotations := none, pyModule := nm.getD .none, doc })) Q E { s with heap := h₁ } := by
    intro ctv h₁ hk hsz
    refine wpAny_bind (wpAny_functionCode_hit hcode (hP h₁ hk) hf ?_)
    have hg' := hg.keeps hk
    refine wpAny_bind (wpAny_builtinsFor hg' hbm hne0 (hk _ _ hbo) hcls hdict hdata ?_)
    refine wpAny_bind (wpAny_nsGet hg' ?_)
    cases body with
    | expr e => exact wpAny_bind (wpAny_pure (wpAny_newObj_type (h ctv .none _ _ hk hsz) (by size_fits)))
    | stmts b =>
      dsimp only
      cases hdoc : docOf b with
      | none => exact wpAny_bind (wpAny_pure (wpAny_newObj_type (h ctv .none _ _ hk hsz) (by size_fits)))
      | some t => exact wpAny_bind (wpAny_mkText (wpAny_newObj_type (h ctv _ _ _ hk hsz) (by size_fits)))
  cases clos with
  | nil =>
    simp only [List.isEmpty_nil, if_true]
    exact wpAny_bind (wpAny_pure (fin .none s.heap (fun _ _ e => e) (Nat.le_refl _)))
  | cons q r =>
    simp only [List.isEmpty_cons, Bool.false_eq_true, if_false]
    exact wpAny_bind (wpAny_newTextTuple (fin _ _ (fun b o e => Heap.get?_push_of_some _ e) (by rw [Heap.size_push]; omega)))
end
end
end Mine
namespace Mine
section
variable {N : Type} {O : Om} {c : Cx N} {A : Around} {env : Env} {T T₀ T₁ : TM N} {Φ : Addr → Option Obj} {ρ ρ₁ : Loc N} {σ σ' : Sto N} {s s₀ s₁ s' : Shared} {M : Model}

theorem Caps.append : ∀ {vs ws : List (V N)} {xs ys : List Addr}, Caps O T vs xs → Caps O T ws ys → Caps O T (vs ++ ws) (xs ++ ys)
  | [], _, _, _, h, g => by unfold Caps at h; subst h; exact g
  | v :: vs, ws, _, ys, h, g => by
    unfold Caps at h
    obtain ⟨x, xs, rfl, a, b⟩ := h
    rw [List.cons_append, List.cons_append]
    unfold Caps
    exact ⟨x, _, rfl, a, b.append g⟩
theorem Caps.one {v : V N} {a : Addr} (h : CellOk O T v a) : Caps O T [v] [a] := by
  unfold Caps
  exact ⟨a, [], rfl, h, by unfold Caps; rfl⟩

theorem closure_ok (hA : At O c A env T Φ ρ σ s) (f : Str × NameKind → List (Str × Addr) → Sem (ForInStep (List (Str × Addr))))
    (hf : ∀ name kind cells, f (name, kind) cells = if kind == .free then (do let a ← cellOf env name; pure (.yield ((name, a) :: cells))) else pure (.yield cells)) :
    ∀ {names : List (Str × NameKind)} {caps : List Nat} {vs : List (V N)} (acc : List (Str × Addr)), capsOk c.fc names caps → caps.map c.κ = vs.map some →
      ∃ cls, forIn names acc f = pure (cls ++ acc) ∧ cls.map (·.1) = capNames names ∧ Caps O T vs (cls.map (·.2))
  | [], caps, vs, acc, h, hv => by
    unfold capsOk at h; subst h
    cases vs with
    | nil => exact ⟨[], rfl, rfl, by unfold Caps; rfl⟩
    | cons => simp at hv
  | (x, k) :: r, caps, vs, acc, h, hv => by
    unfold capsOk at h
    rw [List.forIn_cons, hf]
    unfold capNames
    split at h
    · rename_i hk
      subst hk
      obtain ⟨i, l', rfl, hx, hr⟩ := h
      rw [List.map_append, List.map_singleton] at hv
      obtain ⟨v1, v2, rfl, e1, e2⟩ := List.map_eq_append_iff.mp hv.symm
      obtain ⟨v, rfl⟩ : ∃ v, v2 = [v] := by
        cases v2 with
        | nil => simp at e2
        | cons v w =>
          cases w with
          | nil => exact ⟨v, rfl⟩
          | cons => simp at e2
      have hκ : c.κ i = some v := by simpa using e2.symm
      obtain ⟨y, k', a, g1, g2, g3, g4⟩ := hA.env.cells i v hκ
      have hxy : y = x := by
        rcases hx with hx | hx <;> exact (at_inj g1 hx).1
      subst hxy
      obtain ⟨cls, j1, j2, j3⟩ := closure_ok hA f hf ((y, a) :: acc) hr e1.symm
      refine ⟨cls ++ [(y, a)], ?_, ?_, ?_⟩
      · have : cellOf env y = pure a := by unfold cellOf; rw [g3]
        rw [this]
        simp only [beq_self_eq_true, if_true, pure_bind]
        rw [j1]; simp
      · rw [List.map_append, j2]; simp
      · rw [List.map_append]; exact j3.append (.one g4)
    · rename_i hk
      obtain ⟨cls, j1, j2, j3⟩ := closure_ok hA f hf acc h hv
      have hkf : (k == NameKind.free) = false := by cases k <;> first | rfl | exact absurd rfl hk
      refine ⟨cls, ?_, ?_, j3⟩
      · rw [if_neg (by rw [hkf]; decide)]; exact j1
      · rw [if_neg (by rw [hkf]; decide)]; exact j2

theorem codeAmong_snoc_inv {pos pos' : Pos} {cd cv : Value} (l : List Value) (h : TriplesOk l) (hc : codeAmong pos' (l ++ [rawInt pos.line, rawInt pos.col, cd]) = some cv) : codeAmong pos' l = some cv ∨ (cv = cd ∧ pos'.line = pos.line ∧ pos'.col = pos.col) := by
  fun_induction TriplesOk l with
  | case1 =>
    simp only [List.nil_append, rawInt, codeAmong] at hc
    split at hc
    · rename_i h
      simp only [Bool.and_eq_true, beq_iff_eq, Int.natCast_inj] at h
      exact .inr ⟨(Option.some.inj hc).symm, h.1.symm, h.2.symm⟩
    · cases hc
  | case2 a t b u x rest ih =>
    simp only [List.cons_append, codeAmong] at hc ⊢
    by_cases q : (a == (pos'.line : Int) && b == (pos'.col : Int)) = true
    · rw [if_pos q] at hc ⊢; exact .inl hc
    · rw [if_neg q] at hc ⊢; exact ih h hc
  | case3 l h1 h2 => exact h.elim

/-- a table of codes grows: one more code, with a table of its own -/
theorem Rep.table {h h' : Heap} {P c' P' : Addr} {oc ob : Obj} (R : Rep O T Φ σ h) (hP : T P = some .tab) (hx : Heap.ExtBut P h h') (hc : h.objs.size ≤ c') (hp : h.objs.size ≤ P') (hne : c' ≠ P') (ho : h'.get? c' = some oc) (hop : h'.get? P' = some (tabObj #[])) (hob : h'.get? P = some ob)
    (hcont : Cont O ((T.ins P' .tab).ins c' (.fro oc)) σ .tab ob) : Rep O ((T.ins P' .tab).ins c' (.fro oc)) Φ σ h' := by
  have tp := R.above_none hp
  have tc := R.above_none hc
  have le : T.le ((T.ins P' .tab).ins c' (.fro oc)) := TM.le_ins2 tc tp hne
  have old : ∀ z t, (T.ins P' .tab).ins c' (.fro oc) z = some t → (z = c' ∧ t = .fro oc) ∨ (z = P' ∧ t = .tab) ∨ T z = some t := fun z t q => by
    by_cases w : z = c'
    · rw [w, TM.ins_self] at q; cases q; exact .inl ⟨w, rfl⟩
    · rw [TM.ins_ne w] at q
      by_cases w' : z = P'
      · rw [w', TM.ins_self] at q; cases q; exact .inr (.inl ⟨w', rfl⟩)
      · rw [TM.ins_ne w'] at q; exact .inr (.inr q)
  have oldn : ∀ z n, (T.ins P' .tab).ins c' (.fro oc) z = some (.own n) → T z = some (.own n) := fun z n q => by
    rcases old z _ q with ⟨_, r⟩ | ⟨_, r⟩ | r
    · cases r
    · cases r
    · exact r
  have oldp : ∀ z n, (T.ins P' .tab).ins c' (.fro oc) z = some (.part n) → T z = some (.part n) := fun z n q => by
    rcases old z _ q with ⟨_, r⟩ | ⟨_, r⟩ | r
    · cases r
    · cases r
    · exact r
  refine ⟨fun b u e => ?_, fun b o e => ?_, fun n o e => let ⟨b, q⟩ := R.own n o e; ⟨b, le _ _ q⟩, fun n x y e e' => R.inj n x y (oldn _ _ e) (oldn _ _ e'), fun n x y e e' => R.pin n x y (oldp _ _ e) (oldp _ _ e'), fun b o e => le _ _ (R.base b o e), fun b hb => le _ _ (R.tabs b hb), fun b x e => ?_⟩
  · rcases old b u e with ⟨rfl, rfl⟩ | ⟨rfl, rfl⟩ | e
    · exact ⟨_, ho, rfl⟩
    · exact ⟨_, hop, #[], rfl, trivial, fun pos cv e => by cases e⟩
    · by_cases q : b = P
      · subst q
        rw [hP] at e; cases e
        exact ⟨ob, hob, hcont⟩
      · obtain ⟨x, p, r⟩ := R.trk b u e
        exact ⟨x, hx b x q p, r.mono le⟩
  · obtain ⟨p, q, sl, r⟩ := R.frs b o e
    have hb := R.lt_fr e
    have hbP : b ≠ P := fun z => by rw [z, hP] at p; cases p
    refine ⟨?_, fun z => hx b _ hbP (q z), sl, hx b _ hbP r⟩
    rw [TM.ins_ne (Nat.ne_of_lt (Nat.lt_of_lt_of_le hb hc)), TM.ins_ne (Nat.ne_of_lt (Nat.lt_of_lt_of_le hb hp))]; exact p
  · rcases old b _ e with ⟨_, r⟩ | ⟨_, r⟩ | r
    · cases r
    · cases r
    · have nn := R.noted b x r
      refine nn.keep le fun t q => ?_
      obtain ⟨cc, cf, d, ob', vs, b', w1, w2, _⟩ := nn
      exact (hx x ob' (fun z => by rw [z, hP] at w1; cases w1) w2).trans w2.symm
theorem At.table {P c' P' : Addr} {oc ob : Obj} (h : At O c A env T Φ ρ σ s) (hP : T P = some .tab) (hx : Heap.ExtBut P s.heap s'.heap) (hc : s.heap.objs.size ≤ c') (hp : s.heap.objs.size ≤ P') (hne : c' ≠ P') (ho : s'.heap.get? c' = some oc) (hop : s'.heap.get? P' = some (tabObj #[])) (hob : s'.heap.get? P = some ob)
    (hcont : Cont O ((T.ins P' .tab).ins c' (.fro oc)) σ .tab ob) : At O c A env ((T.ins P' .tab).ins c' (.fro oc)) Φ ρ σ s' := by
  have le : T.le ((T.ins P' .tab).ins c' (.fro oc)) := TM.le_ins2 (h.rep.above_none hc) (h.rep.above_none hp) hne
  refine ⟨h.rep.table hP hx hc hp hne ho hop hob hcont, ?_, h.env.mono le⟩
  have hlt := h.fr.lt
  have F : FrOk O c.fc T Φ ρ s'.heap env.locals := ⟨h.fr.fresh, h.fr.off, let ⟨m, p, q⟩ := h.fr.ns; ⟨m, p.extBut hx (Ne.symm (h.ne hP)), q⟩⟩
  refine F.mono le ?_
  rw [TM.ins_ne (Nat.ne_of_lt (Nat.lt_of_lt_of_le hlt hc)), TM.ins_ne (Nat.ne_of_lt (Nat.lt_of_lt_of_le hlt hp))]; exact h.fr.fresh

theorem At.builtinsAt (ok : O.Ok) (hA : At O c A env T Φ ρ σ s) {P : Addr} (hP : T P = some .tab) : s.heap.BuiltinsAt O.mg P ∧ mainGlobals ≠ P := by
  have top := ok.top
  obtain ⟨og, es, ep, g1, g2, g3⟩ := top.g
  obtain ⟨bm, ob, b1, b2, b3, b4, b5, b6⟩ := top.bmain
  have hg : mainGlobals ≠ P := fun e => by
    have := hA.rep.base _ _ g1
    rw [e, hP] at this; cases this
  refine ⟨⟨bm, ob, b1, b2, fun e => ?_, fun e => ?_, hA.base b3, b4, b5, b6⟩, hg⟩
  · rw [e, g1] at b3
    cases b3
    rw [g2] at b6; cases b6
  · have := hA.rep.base _ _ b3
    rw [e, hP] at this; cases this

theorem fn_made {E : Value → Shared → Prop} {name qual : Str} {params : Arguments} {body : FuncBody} {scope : Scope} {pos : Pos} {firstLine k : Nat} {caps : List Nat} {vs : List (V N)} (ok : O.Ok) (hA : At O c A env T Φ ρ σ s) (hn : c.fc.nest = true)
    (hk : O.code k = some ⟨name, qual, params, body, scope⟩) (hq : O.qualAt pos.line pos.col = some qual) (hcaps : capsOk c.fc scope.names caps) (hv : caps.map c.κ = vs.map some) :
    wpAny M A (makeFunction name qual params body scope env [] [] [] pos firstLine) (fun v s' => ∃ T', Ext T s T' s' ∧ At O c A env T' Φ ρ σ s' ∧ VRep O T' (.clo k vs) v) E s := by
  rw [makeFunction_eq]
  simp only [List.zip_nil_right, List.filterMap_nil, List.isEmpty_nil, if_true, pure_bind]
  obtain ⟨cls, j1, j2, j3⟩ := closure_ok hA (fun (x : Str × NameKind) cells => if x.2 == .free then (do let a ← cellOf env x.1; pure (.yield ((x.1, a) :: cells))) else pure (.yield cells)) (fun name kind cells => rfl) [] hcaps hv
  have hcl : closureFor scope env = pure cls := by
    rw [List.append_nil] at j1
    unfold closureFor
    rw [← j1, bind_pure]
  obtain ⟨cc, P, oc, ws, file, tf, fl, tg, inF, tx, tt, d1, d2, d3, d4, d5, d6, d7, d8, d9, d10, d11, d12⟩ := hA.env.code hn
  obtain ⟨obP, hobP, ps, rfl, htr, htab⟩ := hA.rep.trk P _ d3
  have C : CodeHd s.heap cc P := ⟨oc, ws, file, tf, fl, tg, inF, tx, tt, hA.fro d2, d4, d5, d6, d7, d8, d9, d10, d11, d12⟩
  obtain ⟨bA, hgP⟩ := hA.builtinsAt ok d3
  have hg := (hA.top ok).g
  cases hf : codeAmong pos ps.toList with
  | some cv =>
    obtain ⟨q, q1, q2, q3⟩ := htab pos cv hf
    rw [hq] at q1; cases q1
    refine mk_hit hcl hA.env.globals hg d1 (fun h' hh => (C.keeps hh).code (hh _ _ hobP) htr) hf bA fun ctv doc h' tk hh hsz => ?_
    have hA' : At O c A env T Φ ρ σ { s with heap := h' } := hA.keeps hh
    have hA'' := hA'.fro_new (o := fnRow ⟨name, qual, params, body, scope⟩ cls doc ((O.mg "__name__").getD .none) cv ctv) (s' := { s with heap := h'.push (fnRow ⟨name, qual, params, body, scope⟩ cls doc ((O.mg "__name__").getD .none) cv ctv), toks := tk }) (fun b o e => Heap.get?_push_of_some _ e) (Nat.le_refl _) (Heap.get?_push_size _ rfl)
    have le := TM.le_ins (t := Trk.fro (fnRow ⟨name, qual, params, body, scope⟩ cls doc ((O.mg "__name__").getD .none) cv ctv)) hA'.rep.size_none
    exact ⟨_, ⟨le, rfl, rfl⟩, hA'', by unfold VRep; exact ⟨_, _, cls, doc, _, cv, ctv, rfl, hk, TM.ins_self, q2.mono le, q3.mono le, j2, Caps.mono le _ j3⟩⟩
  | none =>
    refine mk_new hcl hA.env.globals hg d1 (fun h' hh => ⟨(C.keeps hh).code (hh _ _ hobP) htr, (C.keeps hh).tab (hh _ _ hobP)⟩) hf hgP bA fun c' P' ctv doc h' tk hx hc' hP' hrec htb hic hit => ?_
    obtain ⟨o', ws', file', tf', fl', tg', inF', tx', tt', f1, f2, f3, f4, f5, f6, f7, f8, f9, f10⟩ := CodeHd.of hic hit
    obtain ⟨c2, o2, ws2, t2, e1, e2, e3, e4⟩ := hrec
    cases e1
    rw [f1] at e2; cases e2
    have hA' : At O c A env ((T.ins P' .tab).ins c' (.fro o')) Φ ρ σ { s with heap := h' } := by
      have le : T.le ((T.ins P' .tab).ins c' (.fro o')) := TM.le_ins2 (hA.rep.above_none hc') (hA.rep.above_none hP') f10
      have tc' : (T.ins P' .tab).ins c' (.fro o') c' = some (.fro o') := TM.ins_self
      have tp' : (T.ins P' .tab).ins c' (.fro o') P' = some .tab := (TM.ins_ne (Ne.symm f10)).trans TM.ins_self
      refine hA.table (s' := { s with heap := h' }) d3 hx hc' hP' f10 f1 hit.2 htb ⟨_, rfl, ?_, fun pos' cv hcv => ?_⟩
      · rw [Array.toList_append]; exact TriplesOk_snoc _ _ _ _ htr
      · rw [Array.toList_append] at hcv
        rcases codeAmong_snoc_inv _ htr hcv with hcv | ⟨rfl, p1, p2⟩
        · obtain ⟨q, q1, q2, q3⟩ := htab pos' cv hcv
          exact ⟨q, q1, q2.mono le, q3.mono le⟩
        · exact ⟨qual, by rw [p1, p2]; exact hq, ⟨c', o', ws2, t2, rfl, tc', e3, e4⟩, ⟨c', P', o', ws', file', tf', fl', tg', inF', tx', tt', rfl, tc', tp', f2, f3, f4, f5, f6, f7, f8, f9, f10⟩⟩
    have hA'' := hA'.fro_new (o := fnRow ⟨name, qual, params, body, scope⟩ cls doc ((O.mg "__name__").getD .none) (.ref c') ctv) (s' := { s with heap := h'.push (fnRow ⟨name, qual, params, body, scope⟩ cls doc ((O.mg "__name__").getD .none) (.ref c') ctv), toks := tk }) (fun b o e => Heap.get?_push_of_some _ e) (Nat.le_refl _) (Heap.get?_push_size _ rfl)
    have le : T.le ((T.ins P' .tab).ins c' (.fro o')) := TM.le_ins2 (hA.rep.above_none hc') (hA.rep.above_none hP') f10
    have le' := TM.le_ins (t := Trk.fro (fnRow ⟨name, qual, params, body, scope⟩ cls doc ((O.mg "__name__").getD .none) (.ref c') ctv)) hA'.rep.size_none
    have tc' : (T.ins P' .tab).ins c' (.fro o') c' = some (.fro o') := TM.ins_self
    have tp' : (T.ins P' .tab).ins c' (.fro o') P' = some .tab := (TM.ins_ne (Ne.symm f10)).trans TM.ins_self
    exact ⟨_, ⟨TM.le_trans le le', rfl, rfl⟩, hA'', by unfold VRep; exact ⟨_, _, cls, doc, _, _, ctv, rfl, hk, TM.ins_self, ⟨c', o', ws2, t2, rfl, le' _ _ tc', e3, e4⟩,
      ⟨c', P', o', ws', file', tf', fl', tg', inF', tx', tt', rfl, le' _ _ tc', le' _ _ tp', f2, f3, f4, f5, f6, f7, f8, f9, f10⟩, j2, Caps.mono le' _ (Caps.mono le _ j3)⟩⟩

theorem AE.lam {k : Nat} {caps : List Nat} {vs : List (V N)} {Q X : V N → Sto N → Prop} (ok : O.Ok) (hn : c.fc.nest = true) (hv : caps.map c.κ = vs.map some) (h : Q (.clo k vs) σ) : AE O c (.lam k caps) ρ σ Q X := fun A env T Φ s e he hA => by
  cases he with
  | lam h1 h2 h3 h4 h5 h6 =>
    refine kla_eval (by rw [defaultsOf_eq, h3, h4]; rfl) ?_
    rw [hA.env.qual]
    exact wpAny_mono (fn_made ok hA hn h1 h2 h6 hv) (fun v s' ⟨T', e, hA', hv'⟩ => .mk' hA' e hv' h) fun _ _ x => x
end
end Mine
namespace Mine
section
variable {N : Type} {O : Om} {c : Cx N} {A : Around} {env : Env} {T T₀ T₁ : TM N} {Φ : Addr → Option Obj} {ρ ρ₁ : Loc N} {σ σ' : Sto N} {s s₀ s₁ s' : Shared} {M : Model} {E : Value → Shared → Prop}

theorem store_loc {i : Nat} {x : Str} {v : V N} {a : Value} (hA : At O c A env T Φ ρ σ s) (hi : c.fc.at i x .local) (hv : VRep O T v a) {Q : Unit → Shared → Prop} (h : ∀ s', Ext T s T s' → At O c A env T Φ (ρ.upd i v) σ s' → Q () s') : wpAny M A (storeName env x a) Q E s := by
  obtain ⟨m, hm, hall⟩ := hA.fr.ns
  exact wpAny_storeName_local (hA.env.kindOf hi) hm (fun h' hn hs => h _ ⟨TM.le_refl _, rfl, rfl⟩ (hA.store hi hv hall hn hs)) (notClass hA.env)
theorem store_cel {i : Nat} {x : Str} {n : N} {v : V N} {v₀ : Option (V N)} {a : Value} (hA : At O c A env T Φ ρ σ s) (hi : c.fc.at i x .cell) (hκ : c.κ i = some (.cel n)) (hσ : σ n = some (.cell v₀)) (hv : VRep O T v a) {Q : Unit → Shared → Prop}
    (h : ∀ s', Ext T s T s' → At O c A env T Φ ρ (σ.set n (.cell (some v))) s' → Q () s') : wpAny M A (storeName env x a) Q E s := by
  obtain ⟨y, k, b, hx, hk, hl, hok⟩ := hA.env.cells i _ hκ
  obtain ⟨rfl, _⟩ := at_inj hx hi
  rcases hok with ⟨n', e, ht⟩ | ⟨_, _, hz, _⟩
  · cases e
    obtain ⟨ob, hob, o, ho, hr⟩ := hA.rep.trk b _ ht
    rw [hσ] at ho; cases ho
    have hc : ∃ u, s.heap.IsCell b u := by
      cases v₀ with
      | none => exact ⟨_, ob, hob, hr⟩
      | some w => obtain ⟨y, e, _⟩ := hr; exact ⟨_, ob, hob, e⟩
    obtain ⟨u, hc⟩ := hc
    refine wpAny_storeName_cell hA.env.ekind (hA.env.kindOf hi) hl hc fun h' hc' hs => ?_
    obtain ⟨o', ho', hd'⟩ := hc'
    exact h _ ⟨TM.le_refl _, rfl, rfl⟩ (hA.upd (s' := { s with heap := h' }) (o' := .cell (some v)) ht hσ rfl rfl hs ho' ⟨a, hd', hv⟩)
  · cases hz

theorem annTrees_nil {args : Arguments} {env : Env} (h : ∀ a ∈ args.posonlyargs ++ args.args, a.annotation = Option.none) (hk : args.kwonlyargs = []) (hv : args.vararg = none) (hw : args.kwarg = none) : annTrees args none env = [] := by
  obtain ⟨po, a, va, ko, kd, kw, d⟩ := args
  dsimp only at h hk hv hw
  subst hk hv hw
  have key : ∀ l : List Arg, (∀ x ∈ l, x.annotation = Option.none) → annotationsOf l env = [] := fun l hl => by
    induction l with
    | nil => rfl
    | cons x r ih =>
      obtain ⟨n, an, p⟩ := x
      have := hl _ (.head _)
      dsimp only at this
      subst this
      exact ih fun y hy => hl y (.tail _ hy)
  have e0 : annTrees ⟨po, a, none, [], kd, none, d⟩ none env = annotationsOf (a ++ po) env := by
    show annotationsOf (a ++ po ++ [] ++ [] ++ []) env ++ [] = _
    simp
  rw [e0]
  exact key _ fun x hx => h x (by rw [List.mem_append] at hx ⊢; exact hx.symm)

theorem AS.defL {k i : Nat} {caps : List Nat} {vs : List (V N)} {Q : AF N → Loc N → Sto N → Prop} {X : V N → Loc N → Sto N → Prop} (ok : O.Ok) (hn : c.fc.nest = true) (hv : caps.map c.κ = vs.map some) (h : Q .next (ρ.upd i (.clo k vs)) σ) : AS O c (.defn k (.loc i) caps) ρ σ Q X := fun A env T Φ s e he hA => by
  cases he with
  | defn h1 h2 h3 h4 h5 h6 h7 h8 h9 h10 h11 =>
    rcases h10 with ⟨rfl, e⟩ | ⟨_, e⟩
    · cases e
      refine nestDef_K h3 h4 (annTrees_nil h6 h5 h7 h8) ?_
      have hqn : ∀ name, c.fc.at i name .local → qualnameIn env name name = c.fc.qual ++ name := fun name hi => by
        unfold qualnameIn; rw [hA.env.kindOf hi, hA.env.qual]; rfl
      rw [hqn _ h9]
      exact wpAny_mono (fn_made ok hA hn h1 h2 h11 hv) (fun v s₁ ⟨T', e, hA', hv'⟩ => store_loc hA' h9 hv' fun s₂ e₂ hA₂ => .nx hA₂ (e.trans e₂) h) fun _ _ x => x
    · cases e
theorem AS.defC {k i : Nat} {n : N} {v₀ : Option (V N)} {caps : List Nat} {vs : List (V N)} {Q : AF N → Loc N → Sto N → Prop} {X : V N → Loc N → Sto N → Prop} (ok : O.Ok) (hn : c.fc.nest = true) (hv : caps.map c.κ = vs.map some) (hκ : c.κ i = some (.cel n)) (hσ : σ n = some (.cell v₀))
    (h : Q .next ρ (σ.set n (.cell (some (.clo k vs))))) : AS O c (.defn k (.cel i) caps) ρ σ Q X := fun A env T Φ s e he hA => by
  cases he with
  | defn h1 h2 h3 h4 h5 h6 h7 h8 h9 h10 h11 =>
    rcases h10 with ⟨_, e⟩ | ⟨rfl, e⟩
    · cases e
    · cases e
      refine nestDef_K h3 h4 (annTrees_nil h6 h5 h7 h8) ?_
      have hqn : ∀ name, c.fc.at i name .cell → qualnameIn env name name = c.fc.qual ++ name := fun name hi => by
        unfold qualnameIn; rw [hA.env.kindOf hi, hA.env.qual]; rfl
      rw [hqn _ h9]
      exact wpAny_mono (fn_made ok hA hn h1 h2 h11 hv) (fun v s₁ ⟨T', e, hA', hv'⟩ => store_cel hA' h9 hκ hσ hv' fun s₂ e₂ hA₂ => .nx hA₂ (e.trans e₂) h) fun _ _ x => x

/-! a class called -/
theorem At.around (hA : At O c A env T Φ ρ σ s) {A' : Around} {D' : Nat} (hh : A'.handled = A.handled) (hf : A'.frames = A.frames) (hd : A'.depth ≤ A.depth + 1) (hu : A'.units ≤ A.units + 40) (hD : c.D = D' + 1) : At O { c with D := D' } A' env T Φ ρ σ s :=
  ⟨hA.rep, hA.fr, hA.env.scope, hA.env.kind, hA.env.nodup, hA.env.more, hA.env.qual, hA.env.globals, hA.env.builtins, hA.env.cells, hA.env.code, by rw [hf]; exact hA.env.frames, by rw [hh]; exact hA.env.hdok, by have := hA.env.depth; show A'.depth + D' < _; omega, by have := hA.env.units; show A'.units + 40 * D' < _; omega⟩
theorem At.back {A' : Around} {D' : Nat} (hA : At O c A env T₀ Φ ρ₁ σ s) (le : T₀.le T) (h : At O { c with D := D' } A' env T Φ ρ σ' s') : At O c A env T Φ ρ σ' s' := ⟨h.rep, h.fr, hA.env.mono le⟩

structure ClsMk (O : Om) (C f : Addr) : Prop where
  makes : makesIn O.K C = true
  init : findIn O.K (.ref C) "__init__" = some (some (.ref f))
  fn : typeIn O.K (.ref f) = some (.type "function")
  call : ∃ o cd r, O.K.lookup C = some o ∧ o.data = .cls cd ∧ specialIn O.K (.ref C) "__call__" = some r

theorem PCc.make {C f : Addr} {n : N} {as us : List (V N)} {kn : List Str} {D' : Nat} {Q X : V N → Sto N → Prop} (ok : O.Ok) (hm : ClsMk O C f) (hσ : σ n = none) (hD : c.D = D' + 1)
    (h : PCc O { c with D := D' } (.st (.ref f)) (.ref n :: as) kn us ρ (σ.set n (.inst C [] [])) (fun v σ' => v = .none ∧ Q (.ref n) σ') X) : PCc O c (.st (.ref C)) as kn us ρ σ Q X := by
  refine ⟨?_, fun A env T Φ s fv avs kvs hA hf has hus => ?_⟩
  · obtain ⟨o, cd, r, h1, h2, h3⟩ := hm.call
    exact ⟨o, h1, .inr ⟨cd, r, h2, h3⟩⟩
  · unfold VRep at hf; subst hf
    have X' := hA.K ok
    obtain ⟨hh, g, d, t, os⟩ := s
    refine make_core (makes_of X' hm.makes) (looks_findIn X' hm.init) (fun self => bind_fn X' self hm.fn) (.inl rfl) ?_
    have hgt : hh.get? hh.objs.size = none := by
      cases q : hh.get? hh.objs.size with
      | none => rfl
      | some o => exact absurd (Heap.lt_size q) (Nat.lt_irrefl _)
    have hx : ((hh.push emptyDict).push (instObj C hh.objs.size)).get? (hh.objs.size + 1) = some (instObj C hh.objs.size) := by heap_get
    have hd : ((hh.push emptyDict).push (instObj C hh.objs.size)).get? hh.objs.size = some (dictOf [] 0) := Heap.get?_push_of_some _ (Heap.get?_push_size _ rfl)
    have hk : ∀ b o, hh.get? b = some o → ((hh.push emptyDict).push (instObj C hh.objs.size)).get? b = some o := fun b o e => Heap.get?_push_of_some _ (Heap.get?_push_of_some _ e)
    have hA₁ := hA.inst_new (n := n) (C := C) (a := hh.objs.size + 1) (d := hh.objs.size) (s' := ⟨(hh.push emptyDict).push (instObj C hh.objs.size), g, d, t, os⟩) (ns := []) (vs := []) (es := []) (k := 0) hk (Nat.le_succ _) (Nat.le_refl _) (Nat.succ_ne_self _) hσ hx hd (by unfold KeysAre; rfl) .nil
    have le : T.le ((T.ins hh.objs.size (.part n)).ins (hh.objs.size + 1) (.own n)) := TM.le_ins2 (hA.rep.above_none (Nat.le_succ _)) hA.rep.size_none (Nat.succ_ne_self _)
    have hA₂ := hA₁.around (A' := A.under (.builtin "type.__call__" ⟨.ref C :: avs, kn.zip kvs⟩)) (D' := D') rfl (by kernel_rfl) (Nat.add_le_add_left (Nat.le_of_eq (show (Code.builtin "type.__call__" ⟨.ref C :: avs, kn.zip kvs⟩).weight = 1 by kernel_rfl)) _) (Nat.add_le_add_left (show (Code.builtin "type.__call__" ⟨.ref C :: avs, kn.zip kvs⟩).cUnits ≤ 40 from (show (Code.builtin "type.__call__" ⟨.ref C :: avs, kn.zip kvs⟩).cUnits = 1 by kernel_rfl) ▸ (by decide)) _) hD
    have hc := h.2 _ env _ Φ _ (.ref f) (.ref (hh.objs.size + 1) :: avs) kvs hA₂ (by unfold VRep; rfl) (.cons (by unfold VRep; exact ⟨_, rfl, TM.ins_self⟩) (VReps.mono le _ has)) (VReps.mono le _ hus)
    refine codeAny_mono hc fun r s' z => ?_
    rcases r with e | (v | _ | _ | _) <;> first | exact z.elim | skip
    · obtain ⟨T₂, σ₂, v, le₂, hA₃, hg, ho, hv, hq⟩ := z
      exact ⟨T₂, σ₂, v, TM.le_trans le le₂, hA₁.back le₂ hA₃, hg, ho, hv, hq⟩
    · obtain ⟨T₂, σ₂, u, le₂, hA₃, hg, ho, hv, rfl, hq⟩ := z
      unfold VRep at hv
      exact ⟨hv, T₂, σ₂, .ref n, TM.le_trans le le₂, hA₁.back le₂ hA₃, hg, ho, by unfold VRep; exact ⟨_, rfl, le₂ _ _ TM.ins_self⟩, hq⟩
end
end Mine
namespace Mine
def Loc.del {N : Type} (ρ : Loc N) (i : Nat) : Loc N := fun j => if j = i then none else ρ j
section
variable {N : Type} {O : Om} {c : Cx N} {A : Around} {env : Env} {T T₀ T₁ T₂ : TM N} {Φ : Addr → Option Obj} {ρ ρ₁ : Loc N} {σ σ' : Sto N} {s s₀ s₁ s' : Shared}

theorem At.mark {v : V N} {a : Addr} (hA : At O c A env T Φ ρ σ s) (hv : VRep O T v (.ref a)) (hx : v.isExc = true) (hn : Noted T a) : At O { c with hd := .ex v } (A.mark (some (.ref a))) env T Φ ρ σ s :=
  ⟨hA.rep, hA.fr, hA.env.scope, hA.env.kind, hA.env.nodup, hA.env.more, hA.env.qual, hA.env.globals, hA.env.builtins, hA.env.cells, hA.env.code, hA.env.frames, ⟨hx, a, rfl, hv, hn⟩, hA.env.depth, hA.env.units⟩
theorem At.unmark {A' : Around} {w : HD N} (hA : At O c A env T₀ Φ ρ₁ σ s) (le : T₀.le T) (h : At O { c with hd := w } A' env T Φ ρ σ' s') : At O c A env T Φ ρ σ' s' := ⟨h.rep, h.fr, hA.env.mono le⟩
theorem PostF.unmark {A' : Around} {w : HD N} {Q : AF N → Loc N → Sto N → Prop} {f : Flow} (hA : At O c A env T Φ ρ₁ σ s) (h : PostF O { c with hd := w } A' env Φ T s Q f s') : PostF O c A env Φ T s Q f s' :=
  let ⟨T', ρ, σ, af, a, b, d⟩ := h; ⟨T', ρ, σ, af, a, hA.unmark a b, d⟩
theorem PostX.unmark {A' : Around} {w : HD N} {X : V N → Loc N → Sto N → Prop} {x : Value} (hA : At O c A env T Φ ρ₁ σ s) (h : PostX O { c with hd := w } A' env Φ T s X x s') : PostX O c A env Φ T s X x s' :=
  let ⟨T', ρ, σ, af, a, b, d⟩ := h; ⟨T', ρ, σ, af, a, hA.unmark a b, d⟩
theorem PostN.unmark {A' : Around} {w : HD N} {X : V N → Loc N → Sto N → Prop} {x : Value} (hA : At O c A env T Φ ρ₁ σ s) (h : PostN O { c with hd := w } A' env Φ T s X x s') : PostN O c A env Φ T s X x s' :=
  let ⟨T', ρ, σ, af, y, a, b, d⟩ := h; ⟨T', ρ, σ, af, y, a, hA.unmark a b, d⟩
/-- out of a suite's own run -/
theorem marked_out {A' : Around} {w : HD N} {X : V N → Loc N → Sto N → Prop} {x : Value} {E : Value → Shared → Prop} (hA : At O c A env T Φ ρ₁ σ s) (h : PostX O { c with hd := w } A' env Φ T s X x s') (k : ∀ s'', PostX O c A env Φ T s X x s'' → E x s'') :
    notedBy (model O.prog O.w) A' env (cameBackBy (model O.prog O.w) A env E) x s' :=
  noted_ok h fun _ h' => back_ok (h'.unmark hA) fun _ h'' => k _ h''.toX

theorem name_goes {i : Nat} {x : Str} {pos : Pos} {Q : Unit → Shared → Prop} {M : Model} {E : Value → Shared → Prop} (hA : At O c A env T Φ ρ σ s) (hi : c.fc.at i x .local) (h : ∀ s', Ext T s T s' → At O c A env T Φ (ρ.del i) σ s' → Q () s') :
    wpAny M A (do bindName env x .none; unbindBehindTheSuite env x pos) Q E s := by
  obtain ⟨m, hm, hall⟩ := hA.fr.ns
  refine wpAny_nameGoes_keeps (hA.env.kindOf hi) hm (notClass hA.env) fun h' v hn hs => h _ ⟨TM.le_refl _, rfl, rfl⟩ ⟨hA.rep.sameBut hs hA.fr.fresh hA.fr.off, ⟨hA.fr.fresh, hA.fr.off, _, hn, fun j w e => ?_⟩, hA.env⟩
  unfold Loc.del at e
  split at e
  · cases e
  · rename_i hj
    obtain ⟨y, val, p, q, r⟩ := hall j w e
    refine ⟨y, val, p, ?_, r⟩
    have : y ≠ x := fun z => hj (nodup_at hA.env.nodup (z ▸ p) hi)
    simp [this, q]

/-- handling an exception -/
def AH (O : Om) (c : Cx N) (hs : List MH) (v : V N) (ρ : Loc N) (σ : Sto N) (Q : AF N → Loc N → Sto N → Prop) (X : V N → Loc N → Sto N → Prop) : Prop := ∀ A env T Φ s ehs a, CHs O c.fc ehs hs → At O c A env T Φ ρ σ s → VRep O T v (.ref a) → v.isExc = true → Noted T a →
  wpAny (model O.prog O.w) A (handleBy (.ref a) env ehs) (PostF O c A env Φ T s Q) (PostX O c A env Φ T s X) s

theorem AH.nil {v : V N} {Q : AF N → Loc N → Sto N → Prop} {X : V N → Loc N → Sto N → Prop} (h : X v ρ σ) : AH O c [] v ρ σ Q X := fun A env T Φ s ehs a he hA hv hx hn => by
  cases he
  unfold handleBy
  exact passOn_ok (X := X) ⟨T, ρ, σ, v, a, TM.le_refl _, hA, rfl, rfl, rfl, hv, hx, hn, h⟩ fun _ h' => h'.toX

/-- the suite of a clause -/
def ASu (O : Om) (c : Cx N) (n : Option Nat) (b : List MS) (v : V N) (ρ : Loc N) (σ : Sto N) (Q : AF N → Loc N → Sto N → Prop) (X : V N → Loc N → Sto N → Prop) : Prop := match n with
  | none => AX O { c with hd := .ex v } b ρ σ Q X
  | some i => AX O { c with hd := .ex v } b (ρ.upd i v) σ (fun af ρ σ => Q af (ρ.del i) σ) (fun w ρ σ => X w (ρ.del i) σ)

theorem suite_ok {name : Option Str} {n : Option Nat} {body : List PySem.Stmt} {b : List MS} {v : V N} {a : Addr} {pos : Pos} {Q : AF N → Loc N → Sto N → Prop} {X : V N → Loc N → Sto N → Prop} (hb : CSs O c.fc body b) (hnm : match name, n with | none, none => True | some y, some i => c.fc.at i y .local | _, _ => False)
    (hA : At O c A env T Φ ρ σ s) (hv : VRep O T v (.ref a)) (hx : v.isExc = true) (hn : Noted T a) (h : ASu O c n b v ρ σ Q X) :
    wpAny (model O.prog O.w) A (do
      let f ← holding [.ref a] (runOwn (.handlers (.ref a) [.ExceptHandler none name body pos] env) env (some (.ref a)))
      if let some n := name then
        holding (match f with | .ret v => [v] | _ => []) do
          bindName env n .none
          unbindBehindTheSuite env n pos
      pure f) (PostF O c A env Φ T s Q) (PostX O c A env Φ T s X) s := by
  obtain ⟨a', cc, cf, d, e, ha⟩ := exc_of hv hx
  cases e
  refine wpAny_bind (wpAny_holding (wpAny_runOwn (codeAny_of_tree ?_) (by intro x; cases x)))
  have hM := hA.mark hv hx hn
  cases name with
  | none =>
    cases n with
    | some i => exact hnm.elim
    | none =>
      show wpAny _ (A.mark (some (.ref a))) (do return Fin.done (← (handleWith (.ref a) env [.ExceptHandler none none body pos]).onRaise (fun x => do noteFrame x env; theTreesLotGoes x))) _ _ s
      refine wpAny_bind (wpAny_noted ?_)
      have e0 : handleWith (.ref a) env [.ExceptHandler none none body pos] = (do standAt pos; setFlight (.ref a) none; execs body env) := by cases body <;> rfl
      rw [e0]
      refine wpAny_bind (wpAny_standAt (wpAny_bind (setFlight_ok hM ha fun s₁ e₁ h₁ => ?_)))
      refine wpAny_mono (h _ env T Φ s₁ body hb h₁) (fun f s₂ h₂ => wpAny_pure (wpAny_pure (PostF.unmark hA (h₂.ext e₁)))) fun x s₂ h₂ => ?_
      exact marked_out hA (h₂.ext e₁) fun _ h' => h'
  | some y =>
    cases n with
    | none => exact hnm.elim
    | some i =>
      show wpAny _ (A.mark (some (.ref a))) (do return Fin.done (← (handleWith (.ref a) env [.ExceptHandler none (some y) body pos]).onRaise (fun x => do noteFrame x env; theTreesLotGoes x))) _ _ s
      refine wpAny_bind (wpAny_noted ?_)
      have e0 : handleWith (.ref a) env [.ExceptHandler none (some y) body pos] = (do
          standAt pos
          setFlight (.ref a) none
          bindName env y (.ref a)
          match ← (execs body env).attempt with
          | .ok f => pure f
          | .error x =>
            noteFrame x env
            holding [x] <| (do
              bindName env y .none
              unbindBehindTheSuite env y pos : Sem Unit).onRaise fun _ => setFlight x none
            passOn "try.except-as" x env) := by cases body <;> rfl
      rw [e0]
      refine wpAny_bind (wpAny_standAt (wpAny_bind (setFlight_ok hM ha fun s₁ e₁ h₁ => ?_)))
      refine wpAny_bind (wpAny_bindName (store_loc h₁ hnm hv fun s₂ e₂ h₂ => ?_))
      refine wpAny_bind (wpAny_attempt (wpAny_mono (h _ env T Φ s₂ body hb h₂) (fun f s₃ h₃ => ?_) fun x s₃ h₃ => ?_))
      · refine wpAny_pure (wpAny_pure ?_)
        obtain ⟨T', ρ', σ', af, le, hA', hg, ho, hr, hq⟩ := h₃
        have hA'' := hA.unmark le hA'
        refine wpAny_bind (wpAny_holding (name_goes hA'' hnm fun s₄ e₄ h₄ => wpAny_pure ?_))
        exact .mk' h₄ (((e₁.trans e₂).trans ⟨le, hg, ho⟩).trans e₄) hr hq
      · obtain ⟨T', ρ', σ', w, le, hA', hg, ho, hw, hwx, hq⟩ := h₃
        obtain ⟨a₂, cc₂, cf₂, d₂, rfl, ha₂⟩ := exc_of hw hwx
        refine wpAny_bind (noteFrame_ok hA' ha₂ fun T₂ s₄ e₄ h₄ n₄ => ?_)
        refine wpAny_bind (wpAny_holding (wpAny_onRaise (name_goes h₄ hnm fun s₅ e₅ h₅ => ?_)))
        have ex := (((e₁.trans e₂).trans ⟨le, hg, ho⟩).trans e₄).trans e₅
        refine passOn_ok (X := fun w ρ σ => X w ρ σ) ⟨T₂, _, _, w, a₂, ex.1, h₅, ex.2.1, ex.2.2, rfl, hw.mono e₄.1, hwx, n₄, hq⟩ fun s₆ h₆ => ?_
        exact marked_out hA h₆.toX fun _ h' => h'

theorem AH.all {n : Option Nat} {b : List MS} {r : List MH} {v : V N} {Q : AF N → Loc N → Sto N → Prop} {X : V N → Loc N → Sto N → Prop} (h : ASu O c n b v ρ σ Q X) : AH O c (.mk none n b :: r) v ρ σ Q X := fun A env T Φ s ehs a he hA hv hx hn => by
  cases he with
  | cons ht hnm hb hr =>
    cases ht
    rw [handleBy]
    refine wpAny_bind (wpAny_pure ?_)
    simp only [Bool.not_true, Bool.false_eq_true, if_false]
    exact suite_ok hb hnm hA hv hx hn h

/-- a class of exceptions, met by one -/
theorem exc_test {cc C : Value} {cf b : Bool} {ns : List Str} {vs : List (V N)} {a : Addr} (ok : O.Ok) (hA : At O c A env T Φ ρ σ s) (hv : VRep O T (.exc cc cf ns vs) (.ref a)) (hm : exmOne O.K cc C = some b) {R : Bool → Shared → Prop} {E : Value → Shared → Prop} (h : R b s) : wpAny (model O.prog O.w) A (excMatches (.ref a) C) R E s := by
  obtain ⟨a', d, e, ha⟩ := exc_at hv
  cases e
  obtain ⟨ob, hob, ws, rfl, _⟩ := hA.rep.trk a _ ha
  exact exm_one (M := model O.prog O.w) (hA.K ok) ((Looks.ld hob).andThen .now) hm A R E s (fun _ _ e => e) h

theorem AH.typed {t : ME} {n : Option Nat} {b : List MS} {r : List MH} {cc C : Value} {cf hit : Bool} {ns : List Str} {vs : List (V N)} {Q : AF N → Loc N → Sto N → Prop} {X : V N → Loc N → Sto N → Prop} (ok : O.Ok)
    (ht : t = .st C) (hm : exmOne O.K cc C = some hit) (h : if hit then ASu O c n b (.exc cc cf ns vs) ρ σ Q X else AH O c r (.exc cc cf ns vs) ρ σ Q X) : AH O c (.mk (some t) n b :: r) (.exc cc cf ns vs) ρ σ Q X := fun A env T Φ s ehs a he hA hv hx hn => by
  subst ht
  cases he with
  | cons ht hnm hb hr =>
    cases ht with
    | some ht =>
    rw [handleBy]
    have hM := hA.mark hv hx hn
    refine wpAny_bind (wpAny_holding (wpAny_runOwn (codeAny_handlers_test (wpAny_mono (AE.st (O := O) (c := { c with hd := .ex (.exc cc cf ns vs) }) (Q := fun u σ' => u = .st C ∧ σ' = σ) (X := fun _ _ => False) ok ⟨rfl, rfl⟩ _ env T Φ s _ ht hM) (fun C' s₁ h₁ => ?_) fun x s₁ h₁ => ?_)) (by intro x; cases x)))
    · obtain ⟨T₁, σ₁, u, le, hA₁, hg, ho, hu, rfl, rfl⟩ := h₁
      unfold VRep at hu; subst hu
      refine exc_test ok hA₁ (hv.mono le) hm ?_
      have hA₂ := hA.unmark le hA₁
      cases hit with
      | true =>
        refine wpAny_bind (wpAny_pure ?_)
        simp only [Bool.not_true, Bool.false_eq_true, if_false]
        exact endF ⟨le, hg, ho⟩ (suite_ok hb hnm hA₂ (hv.mono le) hx (hn.mono le) h)
      | false =>
        refine wpAny_bind (wpAny_pure ?_)
        simp only [Bool.not_false, if_true]
        exact endF ⟨le, hg, ho⟩ (h A env T₁ Φ s₁ _ a hr hA₂ (hv.mono le) hx (hn.mono le))
    · obtain ⟨_, _, _, _, _, _, _, _, _, q⟩ := h₁
      exact q.elim

/-! try -/
theorem AS.tryE {a : List MS} {hs : List MH} {b : List MS} {Q : AF N → Loc N → Sto N → Prop} {X : V N → Loc N → Sto N → Prop} (hne : hs ≠ [])
    (h : AX O c a ρ σ (fun af ρ₁ σ₁ => match af with | .next => AX O c b ρ₁ σ₁ Q X | af => Q af ρ₁ σ₁) (fun v ρ₁ σ₁ => AH O c hs v ρ₁ σ₁ Q X)) : AS O c (.try a hs b []) ρ σ Q X := fun A env T Φ s e he hA => by
  cases he with
  | «try» h1 h2 h3 h4 =>
    rename_i a₁ hs₁ b₁ f₁ p
    cases h4
    rw [arm_exec_Try]
    refine wpAny_bind (wpAny_standAt ?_)
    cases h2 with
    | nil => exact absurd rfl hne
    | cons t1 t2 t3 t4 =>
      refine wpAny_tryStmt_except (wpAny_mono (h A env T Φ s _ h1 hA) (fun f s₁ h₁ => ?_) fun x s₁ h₁ => ?_)
      · obtain ⟨T₁, ρ₁, σ₁, af, le, hA₁, hg, ho, hr, hq⟩ := h₁
        cases af with
        | next => cases hr; exact endF ⟨le, hg, ho⟩ (hq A env T₁ Φ s₁ _ h3 hA₁)
        | brk => cases hr; exact .bk hA₁ ⟨le, hg, ho⟩ hq
        | cont => cases hr; exact .ct hA₁ ⟨le, hg, ho⟩ hq
        | ret v => obtain ⟨y, rfl, hy⟩ := hr; exact .rt hA₁ ⟨le, hg, ho⟩ hy hq
      · obtain ⟨T₁, ρ₁, σ₁, v, le, hA₁, hg, ho, hv, hx, hq⟩ := h₁
        obtain ⟨a₂, cc, cf, d, rfl, ha⟩ := exc_of hv hx
        refine noteFrame_ok hA₁ ha fun T₂ s₂ e₂ h₂ n₂ => setFlight_ok h₂ (e₂.1 _ _ ha) fun s₃ e₃ h₃ => ?_
        exact endF (((Ext.trans ⟨le, hg, ho⟩ e₂)).trans e₃) (hq A env T₂ Φ s₃ _ a₂ (.cons t1 t2 t3 t4) h₃ (hv.mono e₂.1) hx n₂)

/-- behind a try: the last suite, on the plain way and under an exception -/
def QFin (O : Om) (c : Cx N) (f : List MS) (Q : AF N → Loc N → Sto N → Prop) (X : V N → Loc N → Sto N → Prop) : AF N → Loc N → Sto N → Prop := fun af ρ σ => AX O c f ρ σ (fun af' ρ σ => match af' with | .next => Q af ρ σ | g => Q g ρ σ) X
def XFin (O : Om) (c : Cx N) (f : List MS) (Q : AF N → Loc N → Sto N → Prop) (X : V N → Loc N → Sto N → Prop) : V N → Loc N → Sto N → Prop := fun v ρ σ => AX O { c with hd := .ex v } f ρ σ (fun af' ρ σ => match af' with | .next => X v ρ σ | g => Q g ρ σ) X

theorem fin_plain {f : List MS} {fs : List PySem.Stmt} {Q : AF N → Loc N → Sto N → Prop} {X : V N → Loc N → Sto N → Prop} {fl : Flow} (hf : CSs O c.fc fs f) (hA₀ : At O c A env T Φ ρ₁ σ s) (h : PostF O c A env Φ T s (QFin O c f Q X) fl s₁) :
    FinallyPlain O.prog O.w A (PostX O c A env Φ T s X) env fs (PostF O c A env Φ T s Q) fl s₁ := by
  obtain ⟨T₁, ρ', σ', af, le, hA₁, hg, ho, hr, hq⟩ := h
  refine wpAny_mono (hq A env T₁ Φ s₁ fs hf hA₁) (fun g s₂ h₂ => ?_) fun x s₂ h₂ => loop_raise (h₂.ext ⟨le, hg, ho⟩)
  obtain ⟨T₂, ρ₂, σ₂, af₂, le₂, hA₂, hg₂, ho₂, hr₂, hq₂⟩ := h₂
  have ex : Ext T s T₂ s₂ := Ext.trans ⟨le, hg, ho⟩ ⟨le₂, hg₂, ho₂⟩
  cases af₂ with
  | next =>
    cases hr₂
    refine .mk' hA₂ ex (v := af) ?_ hq₂
    cases af with
    | ret v => obtain ⟨y, rfl, hy⟩ := hr; exact ⟨y, rfl, hy.mono le₂⟩
    | _ => exact hr
  | brk => cases hr₂; exact .bk hA₂ ex hq₂
  | cont => cases hr₂; exact .ct hA₂ ex hq₂
  | ret v => obtain ⟨y, rfl, hy⟩ := hr₂; exact .rt hA₂ ex hy hq₂
theorem fin_raised {f : List MS} {fs : List PySem.Stmt} {Q : AF N → Loc N → Sto N → Prop} {X : V N → Loc N → Sto N → Prop} {e : Value} (hf : CSs O c.fc fs f) (hA₀ : At O c A env T Φ ρ₁ σ s) (h : PostX O c A env Φ T s (XFin O c f Q X) e s₁) :
    FinallyRaised O.prog O.w A (PostX O c A env Φ T s X) env fs (PostF O c A env Φ T s Q) e s₁ := by
  obtain ⟨T₁, ρ', σ', v, le, hA₁, hg, ho, hv, hx, hq⟩ := h
  obtain ⟨a, cc, cf, d, rfl, ha⟩ := exc_of hv hx
  refine ⟨(by intro x; cases x), noteFrame_ok hA₁ ha fun T₂ s₂ e₂ h₂ n₂ => setFlight_ok h₂ (e₂.1 _ _ ha) fun s₃ e₃ h₃ => ?_⟩
  have ex : Ext T s T₂ s₃ := (Ext.trans ⟨le, hg, ho⟩ e₂).trans e₃
  have hv₂ := hv.mono e₂.1
  have hM := h₃.mark hv₂ hx n₂
  refine wpAny_mono (hq _ env T₂ Φ s₃ fs hf hM) (fun g s₄ h₄ => ?_) fun x s₄ h₄ => marked_out hA₀ (h₄.ext ex) fun _ h' => h'
  obtain ⟨T₃, ρ₃, σ₃, af₃, le₃, hA₃, hg₃, ho₃, hr₃, hq₃⟩ := h₄
  have ex₃ : Ext T s T₃ s₄ := ex.trans ⟨le₃, hg₃, ho₃⟩
  have hA₄ := h₃.unmark le₃ hA₃
  have ha₃ := le₃ _ _ (e₂.1 _ _ ha)
  cases af₃ with
  | next =>
    cases hr₃
    exact passOn_ok (X := X) ⟨T₃, ρ₃, σ₃, v, a, ex₃.1, hA₄, ex₃.2.1, ex₃.2.2, rfl, hv₂.mono le₃, hx, n₂.mono le₃, hq₃⟩ fun _ h' => h'.toX
  | brk => cases hr₃; exact setFlight_ok hA₄ ha₃ fun s₅ e₅ h₅ => .bk h₅ (ex₃.trans e₅) hq₃
  | cont => cases hr₃; exact setFlight_ok hA₄ ha₃ fun s₅ e₅ h₅ => .ct h₅ (ex₃.trans e₅) hq₃
  | ret w => obtain ⟨y, rfl, hy⟩ := hr₃; exact setFlight_ok hA₄ ha₃ fun s₅ e₅ h₅ => .rt h₅ (ex₃.trans e₅) hy hq₃

theorem AS.tryF {a : List MS} {hs : List MH} {b f : List MS} {Q : AF N → Loc N → Sto N → Prop} {X : V N → Loc N → Sto N → Prop} (hne : f ≠ [])
    (h : AX O c a ρ σ (fun af ρ₁ σ₁ => match af with | .next => AX O c b ρ₁ σ₁ (QFin O c f Q X) (XFin O c f Q X) | af => QFin O c f Q X af ρ₁ σ₁)
      (fun v ρ₁ σ₁ => match hs with | [] => XFin O c f Q X v ρ₁ σ₁ | h :: r => AH O c (h :: r) v ρ₁ σ₁ (QFin O c f Q X) (XFin O c f Q X))) : AS O c (.try a hs b f) ρ σ Q X := fun A env T Φ s e he hA => by
  cases he with
  | «try» h1 h2 h3 h4 =>
    rename_i a₁ hs₁ b₁ f₁ p
    rw [arm_exec_Try]
    refine wpAny_bind (wpAny_standAt ?_)
    cases h4 with
    | nil => exact absurd rfl hne
    | cons g1 g2 =>
    have hf := CSs.cons g1 g2
    have ok1 : ∀ {fl : Flow} {s₁ : Shared}, PostF O c A env Φ T s (fun af ρ₁ σ₁ => match af with | .next => AX O c b ρ₁ σ₁ (QFin O c _ Q X) (XFin O c _ Q X) | af => QFin O c _ Q X af ρ₁ σ₁) fl s₁ → match fl with
        | .next => wpAny (model O.prog O.w) A (execs b₁ env) (FinallyPlain O.prog O.w A (PostX O c A env Φ T s X) env _ (PostF O c A env Φ T s Q)) (FinallyRaised O.prog O.w A (PostX O c A env Φ T s X) env _ (PostF O c A env Φ T s Q)) s₁
        | fl => FinallyPlain O.prog O.w A (PostX O c A env Φ T s X) env _ (PostF O c A env Φ T s Q) fl s₁ := fun {fl s₁} h₁ => by
      obtain ⟨T₁, ρ₁, σ₁, af, le, hA₁, hg, ho, hr, hq⟩ := h₁
      cases af with
      | next =>
        cases hr
        exact wpAny_mono (hq A env T₁ Φ s₁ _ h3 hA₁) (fun _ _ h₂ => fin_plain hf hA (h₂.ext ⟨le, hg, ho⟩)) fun _ _ h₂ => fin_raised hf hA (h₂.ext ⟨le, hg, ho⟩)
      | brk => cases hr; exact fin_plain hf hA (.bk hA₁ ⟨le, hg, ho⟩ hq)
      | cont => cases hr; exact fin_plain hf hA (.ct hA₁ ⟨le, hg, ho⟩ hq)
      | ret v => obtain ⟨y, rfl, hy⟩ := hr; exact fin_plain hf hA (.rt hA₁ ⟨le, hg, ho⟩ hy hq)
    cases h2 with
    | nil =>
      refine wpAny_tryStmt_finally (wpAny_mono (h A env T Φ s _ h1 hA) (fun fl s₁ h₁ => ok1 h₁) fun x s₁ h₁ => ?_)
      obtain ⟨T₁, ρ₁, σ₁, v, le, hA₁, hg, ho, hv, hx, hq⟩ := h₁
      obtain ⟨a₂, cc, cf, d, rfl, ha⟩ := exc_of hv hx
      refine noteFrame_ok hA₁ ha fun T₂ s₂ e₂ h₂ n₂ => fin_raised hf hA ?_
      have ex := Ext.trans (s := s) ⟨le, hg, ho⟩ e₂
      exact ⟨T₂, ρ₁, σ₁, v, ex.1, h₂, ex.2.1, ex.2.2, hv.mono e₂.1, hx, hq⟩
    | cons t1 t2 t3 t4 =>
      refine wpAny_tryStmt_except_finally (wpAny_mono (h A env T Φ s _ h1 hA) (fun fl s₁ h₁ => ok1 h₁) fun x s₁ h₁ => ?_)
      obtain ⟨T₁, ρ₁, σ₁, v, le, hA₁, hg, ho, hv, hx, hq⟩ := h₁
      obtain ⟨a₂, cc, cf, d, rfl, ha⟩ := exc_of hv hx
      refine noteFrame_ok hA₁ ha fun T₂ s₂ e₂ h₂ n₂ => setFlight_ok h₂ (e₂.1 _ _ ha) fun s₃ e₃ h₃ => ?_
      have ex := ((Ext.trans (s := s) ⟨le, hg, ho⟩ e₂)).trans e₃
      exact wpAny_mono (hq A env T₂ Φ s₃ _ a₂ (.cons t1 t2 t3 t4) h₃ (hv.mono e₂.1) hx n₂) (fun _ _ h₄ => fin_plain hf hA (h₄.ext ex)) fun _ _ h₄ => fin_raised hf hA (h₄.ext ex)
end
end Mine
namespace Mine
section
variable {N : Type} {O : Om} {c : Cx N} {A : Around} {env : Env} {T T₀ T₁ T₂ : TM N} {Φ : Addr → Option Obj} {ρ ρ₁ : Loc N} {σ σ' : Sto N} {s s₀ s₁ s' : Shared} {E : Value → Shared → Prop}

/-- a class of exceptions, as `raise` asks it -/
structure ExcCls (O : Om) (cc : Value) : Prop where
  be : subIn O.K cc (.type "BaseException") = some true
  mt : typeIn O.K cc = some (.type "type")
/-- what may be raised where this exception is handled: one that has no context yet, when the handled one has none -/
def RaiseIn : HD N → V N → Prop
  | .no, _ => True
  | .ex (.exc _ true _ _), .exc _ false _ _ => True
  | _, _ => False
theorem RaiseIn.inv {hd : HD N} {v : V N} (h : RaiseIn hd v) : hd = .no ∨ ∃ wc wn wv vc vn vv, hd = .ex (.exc wc true wn wv) ∧ v = .exc vc false vn vv := by
  unfold RaiseIn at h
  split at h
  · exact .inl rfl
  · exact .inr ⟨_, _, _, _, _, _, rfl, rfl⟩
  · exact h.elim

theorem entry_unchain : entryFor table "proto.unchain" = some Builtin.«proto.unchain» := entryFor_of_tree (by kernel_rfl)

theorem raiseNew_ok {α : Type} {v : V N} {a : Addr} {Q : α → Shared → Prop} (hA : At O c A env T Φ ρ σ s) (hv : VRep O T v (.ref a)) (hr : RaiseIn c.hd v) (k : ∀ s', Ext T s T s' → At O c A env T Φ ρ σ s' → E (.ref a) s') :
    wpAny (model O.prog O.w) A (raiseNew (.ref a) : Sem α) Q E s := by
  have hd := hA.env.hdok
  unfold raiseNew
  refine wpAny_bind (wpAny_handled ?_)
  rcases hr.inv with hh | ⟨wc, wn, wv, vc, vn, vv, hh, rfl⟩
  · rw [hh] at hd
    have : A.handled = none := hd
    rw [this]
    exact wpAny_bind (wpAny_pure (wpAny_throw (k s (.refl _ _) hA)))
  · rw [hh] at hd
    obtain ⟨_, b, h1, h2, _⟩ := hd
    obtain ⟨b', d, e, hb⟩ := exc_at h2
    cases e
    obtain ⟨a', d', e, ha⟩ := exc_at hv
    cases e
    have hab : b ≠ a := fun q => by rw [q, ha] at hb; cases hb
    rw [h1]
    dsimp only
    rw [if_pos (by simp [hab])]
    obtain ⟨ob, hob, ws, rfl, hsz, htb, hctx⟩ := hA.rep.trk b _ hb
    obtain ⟨oa, hoa, us, rfl, hsz', htb', hctx'⟩ := hA.rep.trk a _ ha
    refine wpAny_bind (wpAny_holding (wpAny_runValue (codeAny_builtin entry_unchain ?_)))
    unfold Builtin.«proto.unchain»
    dsimp only
    refine wpAny_bind (wpAny_field hob rfl (hctx rfl) ?_)
    rw [if_pos (by simp)]
    refine wpAny_bind (wpAny_pure (wpAny_pure ?_))
    dsimp only
    refine wpAny_bind (m := updateField a 2 (.ref b)) ?_
    show wpAny _ _ (setField (.ref a) 2 (.ref b)) _ _ _
    refine wpAny_setField hoa rfl (by omega) (wpAny_throw ?_)
    refine k _ ⟨TM.le_refl _, rfl, rfl⟩ (hA.put ha (Heap.SameBut.update ..) (Heap.get?_update_self _ hoa rfl) ⟨_, rfl, by simpa using hsz', ?_, fun q => by cases q⟩ fun nn => ?_)
    · rw [Array.getElem?_setIfInBounds]; simpa using htb'
    · obtain ⟨_, _, _, oo, zs, bb, n1, n2, n3, n4⟩ := nn
      rw [hoa] at n2; cases n2
      cases n3
      exact ⟨_, _, _, _, _, bb, ha, Heap.get?_update_self _ hoa rfl, rfl, by rw [Array.getElem?_setIfInBounds]; simpa using n4⟩

theorem excFrom_ok {cc : Value} {cf : Bool} {ns : List Str} {vs : List (V N)} {a : Addr} {msg : String} {Q : Value → Shared → Prop} (ok : O.Ok) (hA : At O c A env T Φ ρ σ s) (hv : VRep O T (.exc cc cf ns vs) (.ref a)) (hc : ExcCls O cc) (k : Q (.ref a) s) :
    wpAny (model O.prog O.w) A (excFromValue (.ref a) msg) Q E s := by
  obtain ⟨a', d, e, ha⟩ := exc_at hv
  cases e
  obtain ⟨oa, hoa, us, rfl, hsz', htb', hctx'⟩ := hA.rep.trk a _ ha
  have X := hA.K ok
  have isT : Looks (model O.prog O.w) s.heap (isType (.ref a)) false := (Looks.ld (part := some headPart) hoa).andThen .now
  have isB : Looks (model O.prog O.w) s.heap (isInstance (.ref a) (.type "BaseException")) true := ((Looks.ld hoa).andThen .now).andThen (looks_subIn X hc.be)
  unfold excFromValue isExcClass
  refine wpAny_bind (wpAny_bind (isT.here ?_))
  rw [if_neg (by decide)]
  refine wpAny_pure ?_
  rw [if_neg (by decide)]
  refine wpAny_bind (isB.here ?_)
  rw [if_pos rfl]
  exact wpAny_pure k

theorem AS.raise {m : ME} {X : V N → Loc N → Sto N → Prop} {Q : AF N → Loc N → Sto N → Prop} (ok : O.Ok) (h : AE O c m ρ σ (fun v σ₁ => ∃ cc cf ns vs, v = .exc cc cf ns vs ∧ ExcCls O cc ∧ RaiseIn c.hd v ∧ X v ρ σ₁) (fun v σ => X v ρ σ)) : AS O c (.raise (some m)) ρ σ Q X := fun A env T Φ s e he hA => by
  cases he with
  | raise hm =>
    cases hm with
    | some hm =>
    rw [arm_exec_Raise]
    refine wpAny_bind (wpAny_standAt ?_)
    show wpAny _ _ (raiseStmt env (some (do let v ← eval _ env; standAt _; pure v)) none) _ _ _
    unfold raiseStmt
    refine wpAny_bind (wpAny_bind (kEF (.refl _ _) (h A env T Φ s _ hm hA) fun T₁ σ₁ v val s₁ e₁ le₁ h₁ hv hq => wpAny_bind (wpAny_standAt (wpAny_pure ?_))))
    obtain ⟨cc, cf, ns, vs, rfl, hc, hr, hX⟩ := hq
    obtain ⟨a, d, rfl, ha⟩ := exc_at hv
    obtain ⟨oa, hoa, us, rfl, hsz', htb', hctx'⟩ := h₁.rep.trk a _ ha
    have Xk := h₁.K ok
    have isT : Looks (model O.prog O.w) s₁.heap (isType (.ref a)) false := (Looks.ld (part := some headPart) hoa).andThen .now
    refine wpAny_bind (wpAny_pure (wpAny_bind (wpAny_holding (excFrom_ok ok h₁ hv hc ?_))))
    refine wpAny_bind (isT.here ?_)
    rw [if_neg (by decide)]
    unfold raisedInstance
    refine wpAny_bind (wpAny_bind (((Looks.ld hoa).andThen .now : Looks (model O.prog O.w) s₁.heap (typeOf (.ref a)) cc).here (wpAny_bind ((looks_typeIn Xk hc.mt).here ?_))))
    rw [if_pos (by simp)]
    refine wpAny_pure (wpAny_bind (setFlight_ok h₁ ha fun s₂ e₂ h₂ => raiseNew_ok h₂ hv hr fun s₃ e₃ h₃ => ?_))
    have ex := (e₁.trans e₂).trans e₃
    exact ⟨T₁, ρ, σ₁, _, ex.1, h₃, ex.2.1, ex.2.2, hv, rfl, hX⟩
theorem AS.reraise {v : V N} {X : V N → Loc N → Sto N → Prop} {Q : AF N → Loc N → Sto N → Prop} (hv : c.hd = .ex v) (h : X v ρ σ) : AS O c (.raise none) ρ σ Q X := fun A env T Φ s e he hA => by
  cases he with
  | raise hm =>
    cases hm
    rw [arm_exec_Raise]
    refine wpAny_bind (wpAny_standAt ?_)
    show wpAny _ _ (raiseStmt env none none) _ _ _
    unfold raiseStmt
    have hd := hA.env.hdok
    rw [hv] at hd
    obtain ⟨hx, a, h1, h2, h3⟩ := hd
    refine wpAny_bind (wpAny_handled ?_)
    rw [h1]
    obtain ⟨ob, us, b, g1, g2, g3⟩ := hA.noted h3
    obtain ⟨a', cc, cf, d, e, ha⟩ := exc_of h2 hx
    cases e
    refine wpAny_bind (wpAny_rule (wpAny_bind (wpAny_field g1 g2 g3 ?_)))
    rw [if_neg (by simp)]
    refine wpAny_bind (setFlight_ok hA ha fun s₂ e₂ h₂ => wpAny_throw ?_)
    exact ⟨T, ρ, σ, v, e₂.1, h₂, e₂.2.1, e₂.2.2, h2, hx, h⟩
end
end Mine
namespace Mine

/-! the end of a walk raises StopIteration, also where another exception is handled -/
def HdFree (A : Around) (h : Heap) : Prop := A.handled = none ∨ ∃ b ob vs, A.handled = some (.ref b) ∧ h.get? b = some ob ∧ ob.data = .fields vs ∧ vs[2]? = some .none
theorem HdFree.keeps {A : Around} {h h' : Heap} (x : HdFree A h) (k : ∀ b o vs, h.get? b = some o → o.data = .fields vs → vs[2]? = some .none → A.handled = some (.ref b) → h'.get? b = some o) : HdFree A h' := by
  rcases x with x | ⟨b, ob, vs, p, q, r, t⟩
  · exact .inl x
  · exact .inr ⟨b, ob, vs, p, k b ob vs q r t p, r, t⟩

section
variable {prog : Program} {w : World} {A : Around} {E : Value → Shared → Prop} {s : Shared}
theorem raise_fresh {α : Type} {e : Addr} {oe : Obj} {us : Array Value} {Q : α → Shared → Prop} (hh : HdFree A s.heap) (he : s.heap.get? e = some oe) (hd : oe.data = .fields us) (hsz : 2 < us.size) (hf : oe.isFreed = false) (hne : A.handled ≠ some (.ref e))
    (k : ∀ h', Heap.SameBut e s.heap h' → (∃ o, h'.get? e = some o ∧ o.cls = oe.cls) → E (.ref e) { s with heap := h' }) : wpAny (model prog w) A (raiseNew (.ref e) : Sem α) Q E s := by
  unfold raiseNew
  refine wpAny_bind (wpAny_handled ?_)
  rcases hh with hh | ⟨b, ob, vs, h1, h2, h3, h4⟩
  · rw [hh]
    exact wpAny_bind (wpAny_pure (wpAny_throw (k s.heap (Heap.SameBut.refl ..) ⟨oe, he, rfl⟩)))
  · rw [h1]
    have hbe : b ≠ e := fun q => hne (by rw [h1, q])
    dsimp only
    rw [if_pos (by simp [hbe])]
    refine wpAny_bind (wpAny_holding (wpAny_runValue (codeAny_builtin entry_unchain ?_)))
    unfold Builtin.«proto.unchain»
    dsimp only
    refine wpAny_bind (wpAny_field h2 h3 h4 ?_)
    rw [if_pos (by simp)]
    refine wpAny_bind (wpAny_pure (wpAny_pure ?_))
    dsimp only
    refine wpAny_bind (m := updateField e 2 (.ref b)) ?_
    show wpAny _ _ (setField (.ref e) 2 (.ref b)) _ _ _
    refine wpAny_setField he hd hsz (wpAny_throw ?_)
    exact k _ (Heap.SameBut.update ..) ⟨_, Heap.get?_update_self _ he (Obj.isFreed_of_fields (Obj.data_mapFields hd _)), Obj.cls_mapFields ..⟩

/-- StopIteration, made and raised -/
theorem stop_raised {it : Addr} {h₀ : Heap} (hh : HdFree A s.heap) (hlt : ∀ b, A.handled = some (.ref b) → b < s.heap.objs.size) (hx : Heap.ExtBut it h₀ s.heap) {α : Type} {R : α → Shared → Prop}
    (hQ : ∀ e h', (∃ o, h'.get? e = some o ∧ o.cls = .type "StopIteration") → Heap.ExtBut it h₀ h' → E (.ref e) { s with heap := h' }) :
    wpAny (model prog w) A (newExc (.type "StopIteration") [] >>= fun e => (raiseNew e : Sem α)) R E s := by
  refine wpAny_bind ?_
  simp only [newExc, newTuple]
  refine wpAny_bind (wpAny_newObj_type ?_ (by size_fits))
  refine wpAny_bind (m := firstArgMember _ _) (wpAny_of_eq (a := Value.none) (by first | rfl | (simp only [firstArgMember]; rfl)) ?_)
  refine wpAny_newObj_type ?_ (by size_fits)
  refine raise_fresh (us := #[.ref s.heap.objs.size, .none, .none, .none, .bool false, .none] ++ ownMembersOf (.type "StopIteration") []) (hh.keeps fun b o vs e _ _ _ => Heap.get?_push_of_some _ (Heap.get?_push_of_some _ e)) (Heap.get?_push_size _ rfl) rfl (by rw [Array.size_append]; exact Nat.lt_of_lt_of_le (show 2 < 6 by decide) (Nat.le_add_right 6 _)) rfl (fun q => ?_) fun h' hs hc => ?_
  · have := hlt _ q
    rw [Heap.size_push] at this
    exact absurd this (Nat.not_lt_of_le (Nat.le_succ _))
  · refine hQ _ _ hc fun b o' hb e => ?_
    have e' := hx b o' hb e
    rw [hs.2 b (Nat.ne_of_lt (by rw [Heap.size_push]; exact Nat.lt_succ_of_lt (Heap.lt_size e')))]
    exact Heap.get?_push_of_some _ (Heap.get?_push_of_some _ e')

theorem next_list_end {it l : Addr} {i : Nat} {items : Array Value} {Q : Option Value → Shared → Prop} (hh : HdFree A s.heap) (hlt : ∀ b, A.handled = some (.ref b) → b < s.heap.objs.size) (hne : A.handled ≠ some (.ref it))
    (hit : s.heap.IsListIter it l i) (hl : s.heap.IsList l items) (hx : items[i]? = none) (hQ : ∀ h', Heap.ExtBut it s.heap h' → Q none { s with heap := h' }) : wpAny (model prog w) A (pyNext (.ref it)) Q E s := by
  obtain ⟨o, ho, hc, hd⟩ := id hit
  obtain ⟨ol, hol, _, nl, hdl⟩ := hl
  unfold pyNext
  refine wpAny_bind (wpAny_attempt (wpAny_callSpecial?_slot (name := Str.ofString "__next__") hit.typeIs slot_listiter_next
    (wpAny_call_entry slot_listiter_next hit.typeIs entry_listiter_next ?_ (args_listiter_next _))))
  show wpAny _ _ (field (.ref it) 0 >>= _) _ _ s
  refine wpAny_bind (wpAny_field ho hd (x := .ref l) rfl ?_)
  show wpAny _ _ (if (Value.ref l == Value.none) = true then _ else _) _ _ s
  rw [if_neg (show ¬ ((Value.ref l == Value.none) = true) from Bool.false_ne_true)]
  show wpAny _ _ (field (.ref it) 1 >>= _) _ _ s
  refine wpAny_bind (wpAny_field ho hd (x := .int i 0) rfl ?_)
  show wpAny _ _ (seqItems? (.ref l) >>= _) _ _ s
  refine wpAny_bind (wpAny_seqItems hol hdl ?_)
  simp only [Int.toNat_natCast, hx]
  refine wpAny_bind (wpAny_rule (wpAny_bind (wpAny_setField ho hd (by simp) ?_)))
  have hs := Heap.SameBut.update s.heap it (Obj.mapFields (·.setIfInBounds 0 Value.none))
  show wpAny _ _ (newExc (.type "StopIteration") [] >>= fun e => (raiseNew e : Sem _)) _ _ _
  refine stop_raised (s := { s with heap := s.heap.update it (Obj.mapFields (·.setIfInBounds 0 Value.none)) }) (A := A.in1) (it := it) (h₀ := s.heap) (hh.keeps fun b ob vs e _ _ q => (hs.2 b fun z => hne (z ▸ q)).trans e) (fun b q => Nat.lt_of_lt_of_eq (hlt b q) hs.1.symm) hs.extBut fun e h' hc hx' => ?_
  obtain ⟨oo, ho', hcls⟩ := hc
  refine wpAny_bind (wpAny_isInstance (T := "StopIteration") (b := true) ⟨_, ho', hcls⟩ isSubtype_stop ?_)
  exact wpAny_pure (hQ _ hx')
theorem next_tuple_end {it t : Addr} {i : Nat} {items : Array Value} {Q : Option Value → Shared → Prop} (hh : HdFree A s.heap) (hlt : ∀ b, A.handled = some (.ref b) → b < s.heap.objs.size) (hne : A.handled ≠ some (.ref it))
    (hit : s.heap.IsTupleIter it t i) (ht : s.heap.IsTuple t items) (hx : items[i]? = none) (hQ : ∀ h', Heap.ExtBut it s.heap h' → Q none { s with heap := h' }) : wpAny (model prog w) A (pyNext (.ref it)) Q E s := by
  obtain ⟨o, ho, hc, hd⟩ := id hit
  obtain ⟨ol, hol, _, nl, hdl⟩ := ht
  unfold pyNext
  refine wpAny_bind (wpAny_attempt (wpAny_callSpecial?_slot (name := Str.ofString "__next__") hit.typeIs F.slot_tuple_iterator_next
    (wpAny_call_entry F.slot_tuple_iterator_next hit.typeIs F.entry_tuple_iterator_next ?_ (F.args_tuple_iterator_next_1 _))))
  show wpAny _ _ (field (.ref it) 0 >>= _) _ _ s
  refine wpAny_bind (wpAny_field ho hd (x := .ref t) rfl ?_)
  show wpAny _ _ (if (Value.ref t == Value.none) = true then _ else _) _ _ s
  rw [if_neg (show ¬ ((Value.ref t == Value.none) = true) from Bool.false_ne_true)]
  show wpAny _ _ (field (.ref it) 1 >>= _) _ _ s
  refine wpAny_bind (wpAny_field ho hd (x := .int i 0) rfl ?_)
  show wpAny _ _ (seqItems? (.ref t) >>= _) _ _ s
  refine wpAny_bind (wpAny_seqItems hol hdl ?_)
  simp only [Int.toNat_natCast, hx]
  refine wpAny_bind (wpAny_rule (wpAny_bind (wpAny_setField ho hd (by simp) ?_)))
  have hs := Heap.SameBut.update s.heap it (Obj.mapFields (·.setIfInBounds 0 Value.none))
  show wpAny _ _ (newExc (.type "StopIteration") [] >>= fun e => (raiseNew e : Sem _)) _ _ _
  refine stop_raised (s := { s with heap := s.heap.update it (Obj.mapFields (·.setIfInBounds 0 Value.none)) }) (A := A.in1) (it := it) (h₀ := s.heap) (hh.keeps fun b ob vs e _ _ q => (hs.2 b fun z => hne (z ▸ q)).trans e) (fun b q => Nat.lt_of_lt_of_eq (hlt b q) hs.1.symm) hs.extBut fun e h' hc hx' => ?_
  obtain ⟨oo, ho', hcls⟩ := hc
  refine wpAny_bind (wpAny_isInstance (T := "StopIteration") (b := true) ⟨_, ho', hcls⟩ isSubtype_stop ?_)
  exact wpAny_pure (hQ _ hx')
theorem next_range_end {it : Addr} {x left step : Int} {Q : Option Value → Shared → Prop} (hh : HdFree A s.heap) (hlt : ∀ b, A.handled = some (.ref b) → b < s.heap.objs.size) (hit : IsRangeIter s.heap it x left step) (hleft : left ≤ 0)
    (hQ : ∀ h', Heap.ExtBut it s.heap h' → Q none { s with heap := h' }) : wpAny (model prog w) A (pyNext (.ref it)) Q E s := by
  have hT : s.TypeIs (.ref it) "range_iterator" := ⟨_, hit, rfl⟩
  unfold pyNext
  refine wpAny_bind (wpAny_attempt (wpAny_callSpecial?_slot (name := Str.ofString "__next__") hT F.slot_range_iterator_next
    (wpAny_call_entry F.slot_range_iterator_next hT F.entry_range_iterator_next ?_ (F.args_range_iterator_next_1 _))))
  show wpAny _ _ (field (.ref it) 0 >>= _) _ _ s
  refine wpAny_bind (wpAny_field hit rfl (x := rawInt x) rfl ?_)
  show wpAny _ _ (field (.ref it) 1 >>= _) _ _ s
  refine wpAny_bind (wpAny_field hit rfl (x := rawInt left) rfl ?_)
  show wpAny _ _ (field (.ref it) 2 >>= _) _ _ s
  refine wpAny_bind (wpAny_field hit rfl (x := rawInt step) rfl ?_)
  show wpAny _ _ (if left ≤ 0 then _ else _) _ _ s
  rw [if_pos hleft]
  refine wpAny_bind (wpAny_rule ?_)
  refine wpAny_bind ?_
  show wpAny _ _ (newExc (.type "StopIteration") [] >>= fun e => (raiseNew e : Sem _)) _ _ _
  refine stop_raised (A := A.in1) (it := it) (h₀ := s.heap) hh hlt (Heap.ExtBut.refl it s.heap) fun e h' hc hx' => ?_
  obtain ⟨oo, ho', hcls⟩ := hc
  refine wpAny_bind (wpAny_isInstance (T := "StopIteration") (b := true) ⟨_, ho', hcls⟩ isSubtype_stop ?_)
  exact wpAny_pure (hQ _ hx')
end
end Mine
namespace Mine

/-- a walk over values -/
inductive AI (N : Type) where
  | lst (v : V N) (i : Nat)
  | tup (v : V N) (i : Nat)
  | rng (x : Int) (left : Nat) (step : Int)
section
variable {N : Type}
/-- the items behind a value, now -/
def itemsOf (σ : Sto N) : V N → Option (List (V N))
  | .lst vs => some vs
  | .tup vs => some vs
  | .ref n => match σ n with
    | some (.list vs) => some vs
    | _ => none
  | _ => none
def AI.next (σ : Sto N) : AI N → Option (Option (V N × AI N))
  | .lst v i => (itemsOf σ v).map fun vs => vs[i]?.map fun x => (x, .lst v (i + 1))
  | .tup v i => (itemsOf σ v).map fun vs => vs[i]?.map fun x => (x, .tup v (i + 1))
  | .rng _ 0 _ => some none
  | .rng x (l + 1) st => some (some (.int x, .rng (x + st) l st))
def V.isLst : V N → Bool
  | .lst _ => true
  | .ref _ => true
  | _ => false
def V.isTup : V N → Bool
  | .tup _ => true
  | _ => false
def AI.rep (O : Om) (T : TM N) (o : Obj) : AI N → Prop
  | .lst v i => v.isLst = true ∧ ∃ l, VRep O T v (.ref l) ∧ o.cls = .type "list_iterator" ∧ o.data = .fields #[.ref l, .int i 0]
  | .tup v i => v.isTup = true ∧ ∃ l, VRep O T v (.ref l) ∧ o.cls = .type "tuple_iterator" ∧ o.data = .fields #[.ref l, .int i 0]
  | .rng x left step => o = { cls := .type "range_iterator", dict := none, data := .fields #[rawInt x, rawInt left, rawInt step], slots := #[] }
/-- what a value's walk begins with -/
def iterOf : V N → Option (AI N)
  | .lst vs => some (.lst (.lst vs) 0)
  | .ref n => some (.lst (.ref n) 0)
  | .tup vs => some (.tup (.tup vs) 0)
  | .rng lo hi st => if Builtin.Range.small lo hi st && decide (0 ≤ Builtin.Range.rangeSize lo hi st) then some (.rng lo (Builtin.Range.rangeSize lo hi st).toNat st) else none
  | _ => none

variable {O : Om} {c : Cx N} {A : Around} {env : Env} {T T₀ T₁ T₂ : TM N} {Φ : Addr → Option Obj} {ρ ρ₁ : Loc N} {σ σ' : Sto N} {s s₀ s₁ s' : Shared} {E : Value → Shared → Prop}

theorem AI.rep_mono {o : Obj} {it : AI N} (le : T.le T₁) (h : it.rep O T o) : it.rep O T₁ o := by
  cases it with
  | lst v i => obtain ⟨a, l, b, d⟩ := h; exact ⟨a, l, b.mono le, d⟩
  | tup v i => obtain ⟨a, l, b, d⟩ := h; exact ⟨a, l, b.mono le, d⟩
  | rng => exact h
theorem AI.rep_fields {o : Obj} {it : AI N} (h : it.rep O T o) : ∃ vs, o.data = .fields vs := by
  cases it with
  | lst v i => obtain ⟨_, l, _, _, d⟩ := h; exact ⟨_, d⟩
  | tup v i => obtain ⟨_, l, _, _, d⟩ := h; exact ⟨_, d⟩
  | rng => cases h; exact ⟨_, rfl⟩

theorem At.hdFree (hA : At O c A env T Φ ρ σ s) (hg : c.hd.good = true) : HdFree A s.heap ∧ ∀ b, A.handled = some (.ref b) → b < s.heap.objs.size ∧ ∃ t, T b = some t := by
  have hd := hA.env.hdok
  cases hh : c.hd with
  | no =>
    rw [hh] at hd
    have hd : A.handled = none := hd
    exact ⟨.inl hd, fun b e => by rw [hd] at e; cases e⟩
  | any => rw [hh] at hg; cases hg
  | ex v =>
    rw [hh] at hg hd
    obtain ⟨hx, a, h1, h2, h3⟩ := hd
    cases v with
    | exc cc cf ns vs =>
      cases cf with
      | false => cases hg
      | true =>
        obtain ⟨a', d, e, ha⟩ := exc_at h2
        cases e
        obtain ⟨ob, hob, ws, rfl, hsz, htb, hctx⟩ := hA.rep.trk a _ ha
        exact ⟨.inr ⟨a, _, ws, h1, hob, rfl, hctx rfl⟩, fun b e => by rw [h1] at e; cases e; exact ⟨Heap.lt_size hob, _, ha⟩⟩
    | _ => cases hg

/-! an object of one's own, held apart while something runs -/
theorem EnvOk.frAdd {I : Addr} {o : Obj} (x : EnvOk O c A env T Φ) (hI : Φ I = none) : EnvOk O c A env T (Mine.frAdd Φ I o) :=
  ⟨x.scope, x.kind, x.nodup, x.more, x.qual, x.globals, x.builtins, x.cells, x.code, let ⟨e0, l, f1, f2, f3⟩ := x.frames; ⟨e0, l, f1, f2, fun e he => let ⟨g1, L, g2, g3⟩ := f3 e he; ⟨g1, L, g2, g3.imp id fun ⟨o', p, q⟩ => ⟨o', by rw [frAdd_ne fun z => by rw [z, hI] at p; cases p]; exact p, q⟩⟩⟩, x.hdok, x.depth, x.units⟩
/-- it is made, or turns -/
theorem At.hold {I : Addr} {o : Obj} (hA : At O c A env T Φ ρ σ s) (hT : T I = none) (hΦ : Φ I = none) (hL : I ≠ env.locals) (hx : Heap.ExtBut I s.heap s'.heap) (ho : s'.heap.get? I = some o) : At O c A env T (frAdd Φ I o) ρ σ s' := by
  refine ⟨⟨fun a t e => ?_, fun a x e => ?_, hA.rep.own, hA.rep.inj, hA.rep.pin, hA.rep.base, hA.rep.tabs, fun b y e => ?_⟩, ⟨hA.fr.fresh, by rw [frAdd_ne (Ne.symm hL)]; exact hA.fr.off, ?_⟩, hA.env.frAdd hΦ⟩
  · obtain ⟨ob, p, q⟩ := hA.rep.trk a t e
    exact ⟨ob, hx a ob (fun z => by rw [z, hT] at e; cases e) p, q⟩
  · by_cases q : a = I
    · subst q
      rw [frAdd_self] at e; cases e
      exact ⟨hT, fun _ => ho, o.slots, ho⟩
    · rw [frAdd_ne q] at e
      obtain ⟨p, w, sl, r⟩ := hA.rep.frs a x e
      exact ⟨p, fun z => hx a _ q (w z), sl, hx a _ q r⟩
  · have nn := hA.rep.noted b y e
    obtain ⟨cc, cf, d, ob, vs, b', w1, w2, w3⟩ := nn
    exact ⟨cc, cf, d, ob, vs, b', w1, hx y ob (fun z => by rw [z, hT] at w1; cases w1) w2, w3⟩
  · obtain ⟨m, p, q⟩ := hA.fr.ns
    exact ⟨m, p.extBut hx (Ne.symm hL), q⟩
theorem frAdd_frAdd {I : Addr} {o o' : Obj} : frAdd (frAdd Φ I o) I o' = frAdd Φ I o' := by
  funext a
  by_cases q : a = I
  · subst q; rw [frAdd_self, frAdd_self]
  · rw [frAdd_ne q, frAdd_ne q, frAdd_ne q]
/-- it turns -/
theorem At.turn {I : Addr} {o o' : Obj} (hA : At O c A env T (frAdd Φ I o) ρ σ s) (h₀ : EnvOk O c A env T Φ) (hΦ : Φ I = none) (hL : I ≠ env.locals) (hx : Heap.ExtBut I s.heap s'.heap) (ho : s'.heap.get? I = some o') : At O c A env T (frAdd Φ I o') ρ σ s' := by
  have hT := (hA.rep.frs I o frAdd_self).1
  refine ⟨⟨fun a t e => ?_, fun a x e => ?_, hA.rep.own, hA.rep.inj, hA.rep.pin, hA.rep.base, hA.rep.tabs, fun b y e => ?_⟩, ⟨hA.fr.fresh, by have := hA.fr.off; rw [frAdd_ne (Ne.symm hL)] at this ⊢; exact this, ?_⟩, h₀.frAdd hΦ⟩
  · obtain ⟨ob, p, q⟩ := hA.rep.trk a t e
    exact ⟨ob, hx a ob (fun z => by rw [z, hT] at e; cases e) p, q⟩
  · by_cases q : a = I
    · subst q
      rw [frAdd_self] at e; cases e
      exact ⟨hT, fun _ => ho, o'.slots, ho⟩
    · rw [frAdd_ne q] at e
      obtain ⟨p, w, sl, r⟩ := hA.rep.frs a x (by rw [frAdd_ne q]; exact e)
      exact ⟨p, fun z => hx a _ q (w z), sl, hx a _ q r⟩
  · obtain ⟨cc, cf, d, ob, vs, b', w1, w2, w3⟩ := hA.rep.noted b y e
    exact ⟨cc, cf, d, ob, vs, b', w1, hx y ob (fun z => by rw [z, hT] at w1; cases w1) w2, w3⟩
  · obtain ⟨m, p, q⟩ := hA.fr.ns
    exact ⟨m, p.extBut hx (Ne.symm hL), q⟩
/-- it is let go -/
theorem At.letGo {I : Addr} {o : Obj} (hA : At O c A env T (frAdd Φ I o) ρ σ s) (h₀ : EnvOk O c A env T Φ) (hΦ : Φ I = none) (hL : I ≠ env.locals) (hx : Heap.ExtBut I s.heap s'.heap) : At O c A env T Φ ρ σ s' := by
  have hT := (hA.rep.frs I o frAdd_self).1
  refine ⟨⟨fun a t e => ?_, fun a x e => ?_, hA.rep.own, hA.rep.inj, hA.rep.pin, hA.rep.base, hA.rep.tabs, fun b y e => ?_⟩, ⟨hA.fr.fresh, by have := hA.fr.off; rw [frAdd_ne (Ne.symm hL)] at this; exact this, ?_⟩, h₀⟩
  · obtain ⟨ob, p, q⟩ := hA.rep.trk a t e
    exact ⟨ob, hx a ob (fun z => by rw [z, hT] at e; cases e) p, q⟩
  · have q : a ≠ I := fun z => by rw [z, hΦ] at e; cases e
    obtain ⟨p, w, sl, r⟩ := hA.rep.frs a x (by rw [frAdd_ne q]; exact e)
    exact ⟨p, fun z => hx a _ q (w z), sl, hx a _ q r⟩
  · obtain ⟨cc, cf, d, ob, vs, b', w1, w2, w3⟩ := hA.rep.noted b y e
    exact ⟨cc, cf, d, ob, vs, b', w1, hx y ob (fun z => by rw [z, hT] at w1; cases w1) w2, w3⟩
  · obtain ⟨m, p, q⟩ := hA.fr.ns
    exact ⟨m, p.extBut hx (Ne.symm hL), q⟩
theorem extBut_refl (a : Addr) (h : Heap) : Heap.ExtBut a h h := fun _ _ _ e => e

theorem items_at {v : V N} {l : Addr} {vs : List (V N)} (hA : At O c A env T Φ ρ σ s) (hv : VRep O T v (.ref l)) (hi : itemsOf σ v = some vs) :
    ∃ xs : Array Value, VReps O T vs xs.toList ∧ (v.isLst = true → s.heap.IsList l xs) ∧ (v.isTup = true → s.heap.IsTuple l xs) := by
  cases v with
  | lst us =>
    cases hi
    unfold VRep at hv
    obtain ⟨a, xs, n, e, h1, h2⟩ := hv
    cases e
    exact ⟨xs, h2, fun _ => ⟨_, hA.fro h1, rfl, n, rfl⟩, fun q => by cases q⟩
  | tup us =>
    cases hi
    unfold VRep at hv
    obtain ⟨a, xs, n, e, h1, h2⟩ := hv
    cases e
    exact ⟨xs, h2, (fun q => by cases q), fun _ => ⟨_, hA.fro h1, rfl, n, rfl⟩⟩
  | ref m =>
    unfold VRep at hv
    obtain ⟨a, e, h1⟩ := hv
    cases e
    obtain ⟨ob, hob, o, ho, hr⟩ := hA.rep.trk _ _ h1
    have hi : (match σ m with | some (.list vs) => some vs | _ => none) = some vs := hi
    rw [ho] at hi
    cases o with
    | list us =>
      cases hi
      obtain ⟨xs, n, rfl, h2⟩ := hr
      exact ⟨xs, h2, fun _ => ⟨_, hob, rfl, n, rfl⟩, fun q => by cases q⟩
    | _ => cases hi
  | _ => cases hi

/-- one step of a walk-/
theorem next_ok {I : Addr} {o : Obj} {it : AI N} {r : Option (V N × AI N)} {Q : Option Value → Shared → Prop} (hA : At O c A env T (frAdd Φ I o) ρ σ s) (h₀ : EnvOk O c A env T Φ) (hΦ : Φ I = none) (hL : I ≠ env.locals) (hg : c.hd.good = true) (hit : it.rep O T o) (hr : it.next σ = some r)
    (k0 : r = none → ∀ s', Ext T s T s' → At O c A env T Φ ρ σ s' → Q none s')
    (k1 : ∀ v it', r = some (v, it') → ∀ o' x s', Ext T s T s' → At O c A env T (frAdd Φ I o') ρ σ s' → it'.rep O T o' → VRep O T v x → Q (some x) s') :
    wpAny (model O.prog O.w) A (pyNext (.ref I)) Q E s := by
  obtain ⟨hT, hex, sl, hsl⟩ := hA.rep.frs I o frAdd_self
  have hIo := hex fun z => let ⟨vs, hv⟩ := AI.rep_fields hit; z.1 vs hv
  obtain ⟨hf, hb⟩ := hA.hdFree hg
  have hlt : ∀ b, A.handled = some (.ref b) → b < s.heap.objs.size := fun b e => (hb b e).1
  have hne : A.handled ≠ some (.ref I) := fun e => by obtain ⟨_, t, ht⟩ := hb I e; rw [hT] at ht; cases ht
  cases it with
  | lst v i =>
    obtain ⟨hvl, l, hv, hc, hd⟩ := hit
    unfold AI.next at hr
    obtain ⟨vs, hi, hr⟩ := Option.map_eq_some_iff.mp hr
    obtain ⟨xs, hx, hl, _⟩ := items_at hA hv hi
    have hlit : s.heap.IsListIter I l i := ⟨o, hIo, hc, hd⟩
    cases hvi : vs[i]? with
    | none =>
      rw [hvi] at hr
      refine next_list_end hf hlt hne hlit (hl hvl) (by rw [← Array.getElem?_toList]; exact hx.get_none hvi) fun h' hx' => ?_
      exact k0 hr.symm { s with heap := h' } ⟨TM.le_refl _, rfl, rfl⟩ (hA.letGo h₀ hΦ hL hx')
    | some v' =>
      rw [hvi] at hr
      obtain ⟨x, h1, h2⟩ := hx.get hvi
      refine wpAny_pyNext_list_item hlit (hl hvl) (by rw [← Array.getElem?_toList]; exact h1) fun h' hit' hs => ?_
      obtain ⟨o', ho', hc', hd'⟩ := hit'
      exact k1 _ _ hr.symm o' x { s with heap := h' } ⟨TM.le_refl _, rfl, rfl⟩ (hA.turn h₀ hΦ hL hs.extBut ho') ⟨hvl, l, hv, hc', hd'⟩ h2
  | tup v i =>
    obtain ⟨hvl, l, hv, hc, hd⟩ := hit
    unfold AI.next at hr
    obtain ⟨vs, hi, hr⟩ := Option.map_eq_some_iff.mp hr
    obtain ⟨xs, hx, _, hl⟩ := items_at hA hv hi
    have hlit : s.heap.IsTupleIter I l i := ⟨o, hIo, hc, hd⟩
    cases hvi : vs[i]? with
    | none =>
      rw [hvi] at hr
      refine next_tuple_end hf hlt hne hlit (hl hvl) (by rw [← Array.getElem?_toList]; exact hx.get_none hvi) fun h' hx' => ?_
      exact k0 hr.symm { s with heap := h' } ⟨TM.le_refl _, rfl, rfl⟩ (hA.letGo h₀ hΦ hL hx')
    | some v' =>
      rw [hvi] at hr
      obtain ⟨x, h1, h2⟩ := hx.get hvi
      refine wpAny_pyNext_tuple_item hlit (hl hvl) (by rw [← Array.getElem?_toList]; exact h1) fun h' hit' hs => ?_
      obtain ⟨o', ho', hc', hd'⟩ := hit'
      exact k1 _ _ hr.symm o' x { s with heap := h' } ⟨TM.le_refl _, rfl, rfl⟩ (hA.turn h₀ hΦ hL hs.extBut ho') ⟨hvl, l, hv, hc', hd'⟩ h2
  | rng x left step =>
    have hit : o = _ := hit
    subst hit
    cases left with
    | zero =>
      cases hr
      refine next_range_end hf hlt hIo (by simp) fun h' hx' => ?_
      exact k0 rfl { s with heap := h' } ⟨TM.le_refl _, rfl, rfl⟩ (hA.letGo h₀ hΦ hL hx')
    | succ left =>
      cases hr
      refine wpAny_pyNext_range_item hIo (by omega) fun h' hit' hs => ?_
      exact k1 _ _ rfl _ _ { s with heap := h', toks := s.toks + 1 } ⟨TM.le_refl _, rfl, rfl⟩ (hA.turn h₀ hΦ hL hs.extBut hit') (by show _ = _; congr 4; simp) ⟨_, rfl⟩

/-- a walk begins-/
theorem iter_ok {v : V N} {x : Value} {it : AI N} {Q : Value → Shared → Prop} (hA : At O c A env T Φ ρ σ s) (hv : VRep O T v x) (hi : iterOf v = some it) (hn : ∃ r, it.next σ = some r)
    (k : ∀ I o s', Ext T s T s' → T I = none → Φ I = none → I ≠ env.locals → At O c A env T (frAdd Φ I o) ρ σ s' → it.rep O T o → Q (.ref I) s') : wpAny (model O.prog O.w) A (pyIter x) Q E s := by
  have hT := hA.rep.size_none
  have hΦ := hA.rep.size_none_fr
  have hL : s.heap.objs.size ≠ env.locals := fun q => Nat.lt_irrefl _ (q ▸ hA.fr.lt)
  have go : ∀ o : Obj, o.isFreed = false → At O c A env T (frAdd Φ s.heap.objs.size o) ρ σ { s with heap := s.heap.push o } := fun o hf => hA.hold (s' := { s with heap := s.heap.push o }) hT hΦ hL (fun b o' _ e => Heap.get?_push_of_some _ e) (Heap.get?_push_size _ hf)
  obtain ⟨r, hr⟩ := hn
  cases v with
  | lst vs =>
    cases hi
    obtain ⟨a, xs, n, rfl, h1, h2⟩ := id (by unfold VRep at hv; exact hv)
    refine wpAny_pyIter_list ⟨_, hA.fro h1, rfl, n, rfl⟩ (k _ _ _ ⟨TM.le_refl _, rfl, rfl⟩ hT hΦ hL (go _ rfl) ⟨rfl, a, hv, rfl, rfl⟩)
  | tup vs =>
    cases hi
    obtain ⟨a, xs, n, rfl, h1, h2⟩ := id (by unfold VRep at hv; exact hv)
    refine wpAny_pyIter_tuple ⟨_, hA.fro h1, rfl, n, rfl⟩ (k _ _ _ ⟨TM.le_refl _, rfl, rfl⟩ hT hΦ hL (go _ rfl) ⟨rfl, a, hv, rfl, rfl⟩)
  | ref m =>
    cases hi
    obtain ⟨a, rfl, h1⟩ := id (by unfold VRep at hv; exact hv)
    unfold AI.next at hr
    obtain ⟨vs, hvs, _⟩ := Option.map_eq_some_iff.mp hr
    obtain ⟨xs, _, hl, _⟩ := items_at hA hv hvs
    exact wpAny_pyIter_list (hl rfl) (k _ _ _ ⟨TM.le_refl _, rfl, rfl⟩ hT hΦ hL (go _ rfl) ⟨rfl, a, hv, rfl, rfl⟩)
  | rng lo hi' st =>
    have hi : (if Builtin.Range.small lo hi' st && decide (0 ≤ Builtin.Range.rangeSize lo hi' st) then some (AI.rng (N := N) lo (Builtin.Range.rangeSize lo hi' st).toNat st) else none) = some it := hi
    split at hi
    · rename_i hc
      cases hi
      simp only [Bool.and_eq_true, decide_eq_true_eq] at hc
      obtain ⟨a, t, u, w, rfl, h1⟩ := id (by unfold VRep at hv; exact hv)
      refine wpAny_pyIter_range (hA.fro h1) hc.1 (k _ _ _ ⟨TM.le_refl _, rfl, rfl⟩ hT hΦ hL (go _ rfl) ?_)
      show _ = _
      rw [Int.toNat_of_nonneg hc.2]
    · cases hi
  | _ => cases hi

theorem go_tuple {t : PySem.Expr} {I : Addr} {o : Obj} {it : AI N} {x : Value} {Q : Unit → Shared → Prop} (hA : At O c A env T (frAdd Φ I o) ρ σ s) (hit : it.rep O T o) (k : Q () s) : wpAny (model O.prog O.w) A (letOwnedTupleGo t (.ref I) x) Q E s := by
  obtain ⟨hT, hex, sl, hsl⟩ := hA.rep.frs I o frAdd_self
  have hIo := hex fun z => let ⟨vs, hv⟩ := AI.rep_fields hit; z.1 vs hv
  have ncls : ∃ n vs, o.cls = .type n ∧ o.data = .fields vs ∧ (["enumerate", "zip", "dict_itemiterator", "dict_reverseitemiterator", "odict_iterator", "itertools.zip_longest", "itertools.pairwise"].contains n) = false := by
    cases it with
    | lst v i => obtain ⟨_, l, _, hc, hd⟩ := hit; exact ⟨_, _, hc, hd, by decide +kernel⟩
    | tup v i => obtain ⟨_, l, _, hc, hd⟩ := hit; exact ⟨_, _, hc, hd, by decide +kernel⟩
    | rng => cases hit; exact ⟨_, _, rfl, rfl, by decide +kernel⟩
  obtain ⟨n, vs, h1, h2, h3⟩ := ncls
  have body : ∀ a : Addr, wpAny (model O.prog O.w) A (do
      let o ← load I
      match o.cls, o.data with
      | .type n, .fields vs =>
        if ["enumerate", "zip", "dict_itemiterator", "dict_reverseitemiterator", "odict_iterator", "itertools.zip_longest", "itertools.pairwise"].contains n && vs[0]? == some (rawInt a) then do
          rule "for.unpacks-the-owned-tuple"
          updateField I 0 .none
        else pure ()
      | _, _ => pure ()) Q E s := fun a => by
    refine wpAny_bind (wpAny_load hIo ?_)
    rw [h1, h2]
    dsimp only
    rw [h3, Bool.false_and, if_neg (by decide)]
    exact wpAny_pure k
  unfold letOwnedTupleGo
  split
  · cases x with
    | ref a => exact body a
    | _ => exact wpAny_pure k
  · cases x with
    | ref a => exact body a
    | _ => exact wpAny_pure k
  · exact wpAny_pure k
end
end Mine
namespace Mine
section
variable {N : Type} {O : Om} {c : Cx N} {A : Around} {env : Env} {T T₀ T₁ T₂ : TM N} {Φ : Addr → Option Obj} {ρ ρ₁ : Loc N} {σ σ' : Sto N} {s s₀ s₁ s' : Shared} {E : Value → Shared → Prop}

theorem PostX.letGo {I : Addr} {o : Obj} {X : V N → Loc N → Sto N → Prop} {x : Value} (h₀ : EnvOk O c A env T Φ) (hΦ : Φ I = none) (hL : I ≠ env.locals) (h : PostX O c A env (frAdd Φ I o) T s X x s') : PostX O c A env Φ T s X x s' :=
  let ⟨T', ρ, σ, v, le, hA, r⟩ := h; ⟨T', ρ, σ, v, le, hA.letGo (h₀.mono le) hΦ hL (extBut_refl _ _), r⟩

/-- what a loop does with a step-/
def ForTurn (O : Om) (c : Cx N) (t : MT) (a : List MS) (Q : AF N → Loc N → Sto N → Prop) (X : V N → Loc N → Sto N → Prop) (J : AI N → Loc N → Sto N → Prop) (r : Option (V N × AI N)) (ρ : Loc N) (σ : Sto N) : Prop := match r with
  | none => Q .next ρ σ
  | some (v, it') => ATg O c t v ρ σ (fun ρ σ => AX O c a ρ σ (fun af ρ σ => match af with
    | .next => J it' ρ σ
    | .cont => J it' ρ σ
    | .brk => Q .next ρ σ
    | .ret v => Q (.ret v) ρ σ) X) X

theorem AS.for {t : MT} {e : ME} {a : List MS} {Q : AF N → Loc N → Sto N → Prop} {X : V N → Loc N → Sto N → Prop} (hg : c.hd.good = true) (J : Nat → AI N → Loc N → Sto N → Prop)
    (turn : ∀ n it ρ σ, J n it ρ σ → ∃ r, it.next σ = some r ∧ ForTurn O c t a Q X (fun it' ρ σ => ∃ m, m < n ∧ J m it' ρ σ) r ρ σ)
    (h : AE O c e ρ σ (fun v σ => ∃ it n, iterOf v = some it ∧ J n it ρ σ) (fun v σ => X v ρ σ)) : AS O c (.for t e a) ρ σ Q X := fun A env T Φ s st he hA => by
  cases he with
  | «for» ht hm ha hns =>
    rename_i xt xe xa p
    have e0 : exec (.For xt xe xa [] p) env = (do standAt p; let x ← foldedSetIterable xe env (← eval xe env); standAt xe.pos; runOwn (.forLoop xt (← holding [x] (pyIter x)) xa [] env) env) := rfl
    rw [e0]
    refine wpAny_bind (wpAny_standAt (wpAny_bind (kEF (.refl _ _) (h A env T Φ s _ hm hA) fun T₁ σ₁ v x s₁ e₁ le₁ h₁ hv hq => ?_)))
    obtain ⟨it, n, hi, hJ⟩ := hq
    have fs : foldedSetIterable xe env x = pure x := by
      unfold foldedSetIterable
      split
      · exact absurd rfl (hns _ _ _)
      · rfl
    rw [fs]
    refine wpAny_bind (wpAny_pure (wpAny_bind (wpAny_standAt (wpAny_bind (wpAny_holding (iter_ok h₁ hv hi (let ⟨r, hr, _⟩ := turn n it ρ σ₁ hJ; ⟨r, hr⟩) fun I o s₂ e₂ hT hΦ hL h₂ hit => ?_))))))
    refine wpAny_runOwn ?_
    rw [Around.mark_none]
    have env₀ := h₁.env
    refine codeAny_forLoop_any (fun n s' => ∃ T' ρ' σ' it o, Ext T s T' s' ∧ T₁.le T' ∧ At O c A env T' (frAdd Φ I o) ρ' σ' s' ∧ it.rep O T' o ∧ J n it ρ' σ') ?_ n ⟨T₁, ρ, σ₁, it, o, e₁.trans e₂, TM.le_refl _, h₂, hit, hJ⟩
    rintro n s₃ ⟨T₃, ρ₃, σ₃, it, o, e₃, le₃, h₃, hit, hJ⟩
    obtain ⟨r, hr, ht'⟩ := turn n it ρ₃ σ₃ hJ
    have env₃ := env₀.mono le₃
    refine next_ok h₃ env₃ hΦ hL hg hit hr (fun hn s₄ e₄ h₄ => ?_) fun v it' hv' o' x s₄ e₄ h₄ hit' hvx => ?_
    · subst hn
      exact wpAny_execs_nil (.nx h₄ (e₃.trans e₄) ht')
    · subst hv'
      have wayX : ∀ {T₅ : TM N} {s₅ : Shared} {y : Value} {s₆ : Shared}, Ext T s T₅ s₅ → T₁.le T₅ → PostX O c A env (frAdd Φ I o') T₅ s₅ X y s₆ → notedBy (model O.prog O.w) A env (cameBackBy (model O.prog O.w) A env (PostX O c A env Φ T s X)) y s₆ := fun e₅ le₅ hp =>
        loop_raise ((hp.letGo (env₀.mono le₅) hΦ hL).ext e₅)
      refine go_tuple h₄ hit' ?_
      refine wpAny_mono (ht' A env T₃ _ s₄ xt x ht h₄ hvx) (fun _ s₅ h₅ => ?_) fun y s₅ h₅ => wayX (e₃.trans e₄) le₃ h₅
      obtain ⟨T₅, ρ₅, σ₅, af, le₅, hA₅, hg₅, ho₅, _, hq₅⟩ := h₅
      have ex₅ : Ext T s T₅ s₅ := (e₃.trans e₄).trans ⟨le₅, hg₅, ho₅⟩
      refine wpAny_mono (hq₅ A env T₅ _ s₅ xa ha hA₅) (fun f s₆ h₆ => ?_) fun y s₆ h₆ => wayX ex₅ (TM.le_trans le₃ le₅) h₆
      obtain ⟨T₆, ρ₆, σ₆, af₆, le₆, hA₆, hg₆, ho₆, hr₆, hq₆⟩ := h₆
      have ex₆ : Ext T s T₆ s₆ := ex₅.trans ⟨le₆, hg₆, ho₆⟩
      have le₁₆ := TM.le_trans (TM.le_trans le₃ le₅) le₆
      have hit₆ : it'.rep O T₆ o' := AI.rep_mono le₆ (AI.rep_mono le₅ hit')
      have out := hA₆.letGo (s' := s₆) (env₀.mono le₁₆) hΦ hL (extBut_refl _ _)
      cases af₆ with
      | next => cases hr₆; obtain ⟨m, hm, hJ'⟩ := hq₆; exact ⟨m, hm, T₆, ρ₆, σ₆, it', o', ex₆, le₁₆, hA₆, hit₆, hJ'⟩
      | cont => cases hr₆; obtain ⟨m, hm, hJ'⟩ := hq₆; exact ⟨m, hm, T₆, ρ₆, σ₆, it', o', ex₆, le₁₆, hA₆, hit₆, hJ'⟩
      | brk => cases hr₆; exact .nx out ex₆ hq₆
      | ret v => obtain ⟨y, rfl, hy⟩ := hr₆; exact .rt out ex₆ hy hq₆

/-- a loop over a list that stays: one value after another-/
def ForL (O : Om) (c : Cx N) (t : MT) (a : List MS) (Q : AF N → Loc N → Sto N → Prop) (X : V N → Loc N → Sto N → Prop) (K : Sto N → Prop) : List (V N) → Loc N → Sto N → Prop
  | [], ρ, σ => Q .next ρ σ
  | v :: r, ρ, σ => ATg O c t v ρ σ (fun ρ σ => AX O c a ρ σ (fun af ρ σ => match af with
    | .next => K σ ∧ ForL O c t a Q X K r ρ σ
    | .cont => K σ ∧ ForL O c t a Q X K r ρ σ
    | .brk => Q .next ρ σ
    | .ret v => Q (.ret v) ρ σ) X) X
theorem AS.forL {t : MT} {e : ME} {a : List MS} {Q : AF N → Loc N → Sto N → Prop} {X : V N → Loc N → Sto N → Prop} (hg : c.hd.good = true)
    (h : AE O c e ρ σ (fun v σ => ∃ vs, (v.isLst = true ∨ v.isTup = true) ∧ itemsOf σ v = some vs ∧ ForL O c t a Q X (fun σ' => itemsOf σ' v = some vs) vs ρ σ) (fun v σ => X v ρ σ)) : AS O c (.for t e a) ρ σ Q X := by
  have key : ∀ {v : V N} {vs r : List (V N)} {i : Nat}, vs.drop i = r → vs[i]? = r.head? ∧ vs.drop (i + 1) = r.tail := fun {v vs r i} e => ⟨by rw [← e]; simp, by rw [← e]; simp⟩
  refine AS.for hg (fun n it ρ σ => ∃ v vs i, (it = .lst v i ∨ it = .tup v i) ∧ itemsOf σ v = some vs ∧ n = (vs.drop i).length ∧ ForL O c t a Q X (fun σ' => itemsOf σ' v = some vs) (vs.drop i) ρ σ) ?_ ?_
  · rintro n it ρ σ ⟨v, vs, i, hit, hi, rfl, hf⟩
    obtain ⟨k1, k2⟩ := key (v := v) (vs := vs) (i := i) rfl
    have turn : ∀ mk : V N → Nat → AI N, (mk = AI.lst ∨ mk = AI.tup) → ∃ r, (vs[i]?.map fun x => (x, mk v (i + 1))) = r ∧ ForTurn O c t a Q X (fun it' ρ σ => ∃ m, m < (vs.drop i).length ∧ ∃ v vs i, (it' = .lst v i ∨ it' = .tup v i) ∧ itemsOf σ v = some vs ∧ m = (vs.drop i).length ∧ ForL O c t a Q X (fun σ' => itemsOf σ' v = some vs) (vs.drop i) ρ σ) r ρ σ := fun mk hmk => by
      cases hd : vs.drop i with
      | nil =>
        rw [hd] at k1 hf
        rw [k1]
        exact ⟨_, rfl, hf⟩
      | cons x r =>
        rw [hd] at k1 k2 hf
        rw [k1]
        refine ⟨_, rfl, ?_⟩
        intro A env T Φ s e b he hA hv
        refine wpAny_mono (hf A env T Φ s e b he hA hv) (fun _ s₁ h₁ => ?_) fun _ _ y => y
        obtain ⟨T₁, ρ₁, σ₁, af, p1, p2, p3, p4, p5, p6⟩ := h₁
        refine ⟨T₁, ρ₁, σ₁, af, p1, p2, p3, p4, p5, fun A env T Φ s sts he hA => ?_⟩
        refine wpAny_mono (p6 A env T Φ s sts he hA) (fun f s₂ h₂ => h₂.up (TM.le_refl _) rfl rfl fun af ρ σ q => ?_) fun _ _ y => y
        have again : itemsOf σ v = some vs ∧ ForL O c t a Q X (fun σ' => itemsOf σ' v = some vs) r ρ σ → ∃ m, m < (x :: r).length ∧ ∃ v' vs' i', (mk v (i + 1) = .lst v' i' ∨ mk v (i + 1) = .tup v' i') ∧ itemsOf σ v' = some vs' ∧ m = (vs'.drop i').length ∧ ForL O c t a Q X (fun σ' => itemsOf σ' v' = some vs') (vs'.drop i') ρ σ := fun ⟨q1, q2⟩ =>
          ⟨r.length, by simp, v, vs, i + 1, by rcases hmk with rfl | rfl <;> simp, q1, by rw [k2]; rfl, by rw [k2]; exact q2⟩
        cases af with
        | next => exact again q
        | cont => exact again q
        | brk => exact q
        | ret w => exact q
    rcases hit with rfl | rfl
    · obtain ⟨r, hr, ht⟩ := turn AI.lst (.inl rfl)
      exact ⟨r, by show Option.map _ (itemsOf σ v) = _; rw [hi, Option.map_some, hr], ht⟩
    · obtain ⟨r, hr, ht⟩ := turn AI.tup (.inr rfl)
      exact ⟨r, by show Option.map _ (itemsOf σ v) = _; rw [hi, Option.map_some, hr], ht⟩
  · intro A env T Φ s e' he hA
    refine wpAny_mono (h A env T Φ s e' he hA) (fun x s₁ h₁ => h₁.up (TM.le_refl _) rfl rfl fun v σ₁ ⟨vs, q1, q2, q3⟩ => ?_) fun _ _ y => y
    cases v with
    | lst us => exact ⟨_, _, rfl, _, vs, 0, .inl rfl, q2, rfl, q3⟩
    | ref m => exact ⟨_, _, rfl, _, vs, 0, .inl rfl, q2, rfl, q3⟩
    | tup us => exact ⟨_, _, rfl, _, vs, 0, .inr rfl, q2, rfl, q3⟩
    | _ => rcases q1 with q1 | q1 <;> cases q1
/-- a loop over a range-/
def ForR (O : Om) (c : Cx N) (t : MT) (a : List MS) (Q : AF N → Loc N → Sto N → Prop) (X : V N → Loc N → Sto N → Prop) (st : Int) : Nat → Int → Loc N → Sto N → Prop
  | 0, x, ρ, σ => Q .next ρ σ
  | n + 1, x, ρ, σ => ATg O c t (.int x) ρ σ (fun ρ σ => AX O c a ρ σ (fun af ρ σ => match af with
    | .next => ForR O c t a Q X st n (x + st) ρ σ
    | .cont => ForR O c t a Q X st n (x + st) ρ σ
    | .brk => Q .next ρ σ
    | .ret v => Q (.ret v) ρ σ) X) X
theorem AS.forR {t : MT} {e : ME} {a : List MS} {Q : AF N → Loc N → Sto N → Prop} {X : V N → Loc N → Sto N → Prop} (hg : c.hd.good = true)
    (h : AE O c e ρ σ (fun v σ => ∃ lo hi st n, v = .rng lo hi st ∧ iterOf v = some (.rng lo n st) ∧ ForR O c t a Q X st n lo ρ σ) (fun v σ => X v ρ σ)) : AS O c (.for t e a) ρ σ Q X := by
  refine AS.for hg (fun n it ρ σ => ∃ x st, it = .rng x n st ∧ ForR O c t a Q X st n x ρ σ) ?_ ?_
  · rintro n it ρ σ ⟨x, st, rfl, hf⟩
    cases n with
    | zero => exact ⟨_, rfl, hf⟩
    | succ n =>
      refine ⟨_, rfl, ?_⟩
      intro A env T Φ s e b he hA hv
      refine wpAny_mono (hf A env T Φ s e b he hA hv) (fun _ s₁ h₁ => ?_) fun _ _ y => y
      obtain ⟨T₁, ρ₁, σ₁, af, p1, p2, p3, p4, p5, p6⟩ := h₁
      refine ⟨T₁, ρ₁, σ₁, af, p1, p2, p3, p4, p5, fun A env T Φ s sts he hA => ?_⟩
      refine wpAny_mono (p6 A env T Φ s sts he hA) (fun f s₂ h₂ => h₂.up (TM.le_refl _) rfl rfl fun af ρ σ q => ?_) fun _ _ y => y
      cases af with
      | next => exact ⟨n, Nat.lt_succ_self _, _, _, rfl, q⟩
      | cont => exact ⟨n, Nat.lt_succ_self _, _, _, rfl, q⟩
      | brk => exact q
      | ret w => exact q
  · intro A env T Φ s e' he hA
    refine wpAny_mono (h A env T Φ s e' he hA) (fun x s₁ h₁ => h₁.up (TM.le_refl _) rfl rfl fun v σ₁ ⟨lo, hi, st, n, q0, q1, q2⟩ => ?_) fun _ _ y => y
    exact ⟨_, n, q1, _, _, rfl, q2⟩
end
end Mine
namespace Mine
section
variable {N : Type}
def AI.walks (K : Sto N → Prop) : AI N → List (V N) → Prop
  | it, [] => ∀ σ, K σ → it.next σ = some none
  | it, v :: r => ∃ it', (∀ σ, K σ → it.next σ = some (some (v, it'))) ∧ AI.walks K it' r
def rngL (lo st : Int) : Nat → List (V N)
  | 0 => []
  | n + 1 => .int lo :: rngL (lo + st) st n
/-- the values that a walk over a value gives -/
def walkOf (σ : Sto N) : V N → Option (List (V N))
  | .rng lo hi st => if Builtin.Range.small lo hi st && decide (0 ≤ Builtin.Range.rangeSize lo hi st) then some (rngL lo st (Builtin.Range.rangeSize lo hi st).toNat) else none
  | v => itemsOf σ v
theorem walks_rng (K : Sto N → Prop) : ∀ (n : Nat) (lo st : Int), (AI.rng lo n st).walks K (rngL lo st n)
  | 0, _, _ => fun _ _ => rfl
  | n + 1, lo, st => ⟨_, fun _ _ => rfl, walks_rng K n _ _⟩
theorem walks_seq {v : V N} {vs : List (V N)} {mk : V N → Nat → AI N} (hmk : ∀ σ i, (mk v i).next σ = (itemsOf σ v).map fun vs => vs[i]?.map fun x => (x, mk v (i + 1))) : ∀ (r : List (V N)) (i : Nat), vs.drop i = r → (mk v i).walks (fun σ => itemsOf σ v = some vs) r
  | [], i, e => fun σ hσ => by
    rw [hmk, hσ, Option.map_some, List.getElem?_eq_none (by have := congrArg List.length e; simp at this; omega)]; rfl
  | x :: r, i, e => by
    have h0 : vs[i]? = some x := by have := congrArg List.head? e; simpa using this
    exact ⟨mk v (i + 1), fun σ hσ => by rw [hmk, hσ, Option.map_some, h0]; rfl, walks_seq hmk r (i + 1) (by have := congrArg List.tail e; simpa using this)⟩
theorem walk_iter {σ : Sto N} {v : V N} {vs : List (V N)} (h : walkOf σ v = some vs) : ∃ it, iterOf v = some it ∧ it.walks (fun σ' => walkOf σ' v = some vs) vs := by
  cases v with
  | rng lo hi st =>
    have h : (if Builtin.Range.small lo hi st && decide (0 ≤ Builtin.Range.rangeSize lo hi st) then some (rngL (N := N) lo st (Builtin.Range.rangeSize lo hi st).toNat) else none) = some vs := h
    split at h
    · rename_i hc
      cases h
      exact ⟨_, by show (if _ then _ else _) = _; rw [if_pos hc], walks_rng _ _ _ _⟩
    · cases h
  | lst us => exact ⟨_, rfl, walks_seq (v := .lst us) (mk := AI.lst) (fun _ _ => rfl) vs 0 rfl⟩
  | ref m => exact ⟨_, rfl, walks_seq (v := .ref m) (mk := AI.lst) (fun _ _ => rfl) vs 0 rfl⟩
  | tup us => exact ⟨_, rfl, walks_seq (v := .tup us) (mk := AI.tup) (fun _ _ => rfl) vs 0 rfl⟩
  | _ => cases h
theorem walks_next {K : Sto N → Prop} {it : AI N} {vs : List (V N)} {σ : Sto N} (h : it.walks K vs) (hK : K σ) : ∃ r, it.next σ = some r := by
  cases vs with
  | nil => exact ⟨_, h σ hK⟩
  | cons v r => obtain ⟨it', h1, _⟩ := h; exact ⟨_, h1 σ hK⟩

variable (O : Om) (c : Cx N) (X : V N → Sto N → Prop)
/-- conditions, up to the first that fails -/
def condW : List ME → Loc N → Sto N → (Bool → Sto N → Prop) → Prop
  | [], ρ, σ, Q => Q true σ
  | m :: ms, ρ, σ, Q => AT O c m ρ σ (fun b σ => match b with | true => condW ms ρ σ Q | false => Q false σ) X
def itemsW (t : MT) (ifs : List ME) (inner : List (V N) → Loc N → Sto N → (List (V N) → Loc N → Sto N → Prop) → Prop) (K : Sto N → Prop) : List (V N) → List (V N) → Loc N → Sto N → (List (V N) → Loc N → Sto N → Prop) → Prop
  | [], acc, ρ, σ, Q => Q acc ρ σ
  | v :: r, acc, ρ, σ, Q => ATg O c t v ρ σ (fun ρ σ => condW O c X ifs ρ σ (fun b σ => match b with
    | true => inner acc ρ σ (fun acc ρ σ => K σ ∧ itemsW t ifs inner K r acc ρ σ Q)
    | false => K σ ∧ itemsW t ifs inner K r acc ρ σ Q)) (fun v _ σ => X v σ)
def innerW (elt : ME) : List MG → List (V N) → Loc N → Sto N → (List (V N) → Loc N → Sto N → Prop) → Prop
  | [], acc, ρ, σ, Q => acc.length < 1000000 ∧ AE O c elt ρ σ (fun x σ => Q (acc ++ [x]) ρ σ) X
  | .mk t e ifs :: rest, acc, ρ, σ, Q => AE O c e ρ σ (fun w σ => ∃ vs, walkOf σ w = some vs ∧ itemsW O c X t ifs (innerW elt rest) (fun σ' => walkOf σ' w = some vs) vs acc ρ σ Q) X
end

section
variable {prog : Program} {w : World} {A : Around} {E : Value → Shared → Prop} {s : Shared}
theorem append_raw {l : Addr} {xs : Array Value} {n : Nat} {x : Value} {Q : Value → Shared → Prop} (hl : s.heap.get? l = some (listOf xs n)) (hsz : xs.size ≤ sizeLine)
    (hQ : ∀ h' n', h'.get? l = some (listOf (xs.push x) n') → Heap.SameBut l s.heap h' → Q .none { s with heap := h' }) : wpAny (model prog w) A (call (.builtin "list.append") [.ref l, x]) Q E s := by
  have hL : s.heap.IsList l xs := ⟨_, hl, rfl, n, rfl⟩
  refine wpAny_call_entry slot_list_append hL.typeIs entry_list_append ?_ (args_list_append _ _)
  show wpAny _ _ (updateSeq l (·.push x) >>= fun _ => ret .none) _ _ s
  refine wpAny_bind ?_
  refine wpAny_updateSeq hl rfl (wpAny_pure ⟨.none, rfl, hQ _ _ (Heap.get?_update_self _ hl rfl) (Heap.SameBut.update ..)⟩)
end

section
variable {N : Type} {O : Om} {c : Cx N} {A : Around} {env : Env} {T T₀ T₁ T₂ : TM N} {Φ : Addr → Option Obj} {ρ ρ₁ : Loc N} {σ σ' : Sto N} {s s₀ s₁ s' : Shared} {E : Value → Shared → Prop}

theorem frAdd_comm {a b : Addr} {x y : Obj} (h : a ≠ b) : frAdd (frAdd Φ a x) b y = frAdd (frAdd Φ b y) a x := by
  funext z
  by_cases h1 : z = a
  · subst h1; rw [frAdd_ne h, frAdd_self, frAdd_self]
  · by_cases h2 : z = b
    · subst h2; rw [frAdd_self, frAdd_ne h1, frAdd_self]
    · rw [frAdd_ne h2, frAdd_ne h1, frAdd_ne h1, frAdd_ne h2]

/-- what was held apart is tracked from now on-/
theorem At.adopt {D : Addr} {o : Obj} (hA : At O c A env T (frAdd Φ D o) ρ σ s) (h₀ : EnvOk O c A env T Φ) (hΦ : Φ D = none) (hL : D ≠ env.locals) (hf : ¬ FrLike o) : At O c A env (T.ins D (.fro o)) Φ ρ σ s := by
  obtain ⟨hT, hex, _⟩ := hA.rep.frs D o frAdd_self
  have ho := hex hf
  have le := TM.le_ins (t := (Trk.fro o : Trk N)) hT
  have old : ∀ z t, T.ins D (.fro o) z = some t → (z = D ∧ t = .fro o) ∨ T z = some t := fun z t q => by
    by_cases w : z = D
    · rw [w, TM.ins_self] at q; cases q; exact .inl ⟨w, rfl⟩
    · rw [TM.ins_ne w] at q; exact .inr q
  refine ⟨⟨fun a t e => ?_, fun a x e => ?_, fun n o e => let ⟨z, q⟩ := hA.rep.own n o e; ⟨z, le _ _ q⟩, fun n x y e e' => ?_, fun n x y e e' => ?_, fun z o e => le _ _ (hA.rep.base z o e), fun z hz => le _ _ (hA.rep.tabs z hz), fun b y e => ?_⟩, ?_, h₀.mono le⟩
  · rcases old a t e with ⟨rfl, rfl⟩ | e2
    · exact ⟨o, ho, rfl⟩
    · obtain ⟨ob, p, q⟩ := hA.rep.trk a t e2; exact ⟨ob, p, q.mono le⟩
  · have q : a ≠ D := fun z => by rw [z, hΦ] at e; cases e
    obtain ⟨p, w, r⟩ := hA.rep.frs a x (by rw [frAdd_ne q]; exact e)
    exact ⟨by rw [TM.ins_ne q]; exact p, w, r⟩
  · rcases old x _ e with ⟨_, r⟩ | r
    · cases r
    · rcases old y _ e' with ⟨_, r'⟩ | r'
      · cases r'
      · exact hA.rep.inj n x y r r'
  · rcases old x _ e with ⟨_, r⟩ | r
    · cases r
    · rcases old y _ e' with ⟨_, r'⟩ | r'
      · cases r'
      · exact hA.rep.pin n x y r r'
  · rcases old b _ e with ⟨_, r⟩ | r
    · cases r
    · exact (hA.rep.noted b y r).keep le fun _ _ => rfl
  · have F := hA.fr
    refine ⟨by rw [TM.ins_ne (Ne.symm hL)]; exact F.fresh, by have := F.off; rw [frAdd_ne (Ne.symm hL)] at this; exact this, let ⟨m, p, q⟩ := F.ns; ⟨m, p, fun i v e => let ⟨y, val, a, b, d⟩ := q i v e; ⟨y, val, a, b, d.mono le⟩⟩⟩
end
end Mine
namespace Mine

theorem compTurn_eq {elt : PySem.Expr} {gens : List Comprehension} {g : Comprehension} {scope : Scope} {pos : Pos} {depth : Nat} {it acc : Value} {env : Env} (hg : gens[depth]? = some g) (ha : g.is_async = 0) (ha' : ∀ g', gens[depth + 1]? = some g' → g'.is_async = 0) :
    compTurn (.ListComp elt gens scope pos) depth it acc env = (do
      standAt g.iter.pos
      match ← pyNext it with
      | none => pure (.done .next)
      | some v =>
        letOwnedTupleGo g.target it v
        assign g.target env v
        let ok ← forIn g.ifs true fun c r => if r = true then do let ok ← isTrue c env (eval c env); pure (ForInStep.yield ok) else pure (ForInStep.yield r)
        if ok = true then
          (match gens[depth + 1]? with
          | some g' => do
            let x ← eval g'.iter env
            standAt g'.iter.pos
            let x ← foldedSetIterable g'.iter env x
            let _ ← runOwn (.compStart (.ListComp elt gens scope pos) (depth + 1) (← holding [x] (pyIter x)) acc env) env
            again (.compLoop (.ListComp elt gens scope pos) depth it acc env)
          | none => do
            let x ← eval elt env
            let _ ← call (.builtin "list.append") [acc, x]
            again (.compLoop (.ListComp elt gens scope pos) depth it acc env))
        else again (.compLoop (.ListComp elt gens scope pos) depth it acc env)) := by
  unfold compTurn
  simp only [hg, ha]
  cases h : gens[depth + 1]? with
  | none =>
    simp only [bne_self_eq_false, Bool.false_eq_true, if_false, bind_assoc, pure_bind]
    rfl
  | some g' =>
    simp only [ha' g' h, bne_self_eq_false, Bool.false_eq_true, if_false, bind_assoc, pure_bind]
    rfl

section
variable {N : Type} {O : Om} {c : Cx N} {A : Around} {env : Env} {T T₀ T₁ T₂ : TM N} {Φ : Addr → Option Obj} {ρ ρ₁ : Loc N} {σ σ' : Sto N} {s s₀ s₁ s' : Shared} {E : Value → Shared → Prop}

theorem cond_ok {X : V N → Sto N → Prop} : ∀ {ms : List ME} {es : List PySem.Expr} {Q : Bool → Sto N → Prop} {σ : Sto N} {T₁ : TM N} {s₁ : Shared} {R : Bool → Shared → Prop}, CEs O c.fc es ms → Ext T s T₁ s₁ → At O c A env T₁ Φ ρ σ s₁ → condW O c X ms ρ σ Q →
    (∀ T₂ σ₂ b s₂, Ext T s T₂ s₂ → T₁.le T₂ → At O c A env T₂ Φ ρ σ₂ s₂ → Q b σ₂ → R b s₂) →
    wpAny (model O.prog O.w) A (forIn es true fun c r => if r = true then do let ok ← isTrue c env (eval c env); pure (ForInStep.yield ok) else pure (ForInStep.yield r)) R (PostY O c A env Φ ρ T s X) s₁
  | [], _, _, _, T₁, s₁, R, .nil, e₁, hA, h, k => wpAny_pure (k T₁ _ true s₁ e₁ (TM.le_refl _) hA h)
  | m :: ms, _, Q, σ, T₁, s₁, R, .cons (e := e) (es := es) hm hst hr, e₁, hA, h, k => by
    rw [List.forIn_cons]
    simp only [if_true]
    refine wpAny_bind (wpAny_bind (kB e₁ (h A env T₁ Φ s₁ e hm hA) fun T₂ σ₂ b s₂ e₂ le₂ h₂ hq => wpAny_pure ?_))
    cases b with
    | true => exact cond_ok hr e₂ h₂ hq fun T₃ σ₃ b s₃ e₃ le₃ h₃ hq₃ => k T₃ σ₃ b s₃ e₃ (TM.le_trans le₂ le₃) h₃ hq₃
    | false =>
      have key : ∀ es : List PySem.Expr, forIn es false (fun c r => if r = true then do let ok ← isTrue c env (eval c env); pure (ForInStep.yield ok) else pure (ForInStep.yield r)) = (pure false : Sem Bool) := fun es => by
        induction es with
        | nil => rfl
        | cons e r ih => rw [List.forIn_cons]; simp only [Bool.false_eq_true, if_false, pure_bind]; exact ih
      show wpAny _ _ (forIn es false _) _ _ _
      rw [key]
      exact wpAny_pure (k T₂ σ₂ false s₂ e₂ le₂ h₂ hq)

/-- where a comprehension's loop stands -/
structure CompAt (O : Om) (c : Cx N) (A : Around) (env : Env) (Φ : Addr → Option Obj) (T : TM N) (ρ : Loc N) (σ : Sto N) (D : Addr) (acc : List (V N)) (s : Shared) : Prop where
  at' : ∃ xs n, At O c A env T (frAdd Φ D (listOf xs n)) ρ σ s ∧ VReps O T acc xs.toList

def PostC (O : Om) (c : Cx N) (A : Around) (env : Env) (Φ : Addr → Option Obj) (T₀ : TM N) (s₀ : Shared) (D : Addr) (Q : List (V N) → Loc N → Sto N → Prop) (s : Shared) : Prop :=
  ∃ T ρ σ acc, Ext T₀ s₀ T s ∧ CompAt O c A env Φ T ρ σ D acc s ∧ Q acc ρ σ

theorem PostX.letGo2 {I D : Addr} {o p : Obj} {X : V N → Loc N → Sto N → Prop} {x : Value} (h₀ : EnvOk O c A env T Φ) (hI : Φ I = none) (hD : Φ D = none) (hID : I ≠ D) (hL : I ≠ env.locals) (hL' : D ≠ env.locals) (h : PostX O c A env (frAdd (frAdd Φ D p) I o) T s X x s') : PostX O c A env Φ T s X x s' :=
  let ⟨T', ρ, σ, v, le, hA, r⟩ := h
  ⟨T', ρ, σ, v, le, ((hA.letGo ((h₀.mono le).frAdd hD) (by rw [frAdd_ne hID]; exact hI) hL (extBut_refl _ _)).letGo (h₀.mono le) hD hL' (extBut_refl _ _)), r⟩

theorem self_iter {I : Addr} {o : Obj} {it : AI N} {Q : Value → Shared → Prop} (hA : At O c A env T (frAdd Φ I o) ρ σ s) (hit : it.rep O T o) (k : Q (.ref I) s) : wpAny (model O.prog O.w) A (pyIter (.ref I)) Q E s := by
  obtain ⟨hT, hex, sl, hsl⟩ := hA.rep.frs I o frAdd_self
  have hIo := hex fun z => let ⟨vs, hv⟩ := AI.rep_fields hit; z.1 vs hv
  cases it with
  | lst v i => obtain ⟨_, l, _, hc, hd⟩ := hit; exact wpAny_pyIter_listiter ⟨o, hIo, hc, hd⟩ k
  | tup v i => obtain ⟨_, l, _, hc, hd⟩ := hit; exact wpAny_pyIter_tupleiter ⟨o, hIo, hc, hd⟩ k
  | rng => cases hit; exact wpAny_pyIter_rangeiter hIo k

theorem compStart_ok {e : PySem.Expr} {d : Nat} {I : Addr} {acc : Value} {g : Comprehension} {R : Result → Shared → Prop} (hq : (Code.compStart e d (.ref I) acc env).isFrame = false) (hg : (clausesOf e)[d]? = some g) (ha : g.is_async = 0) (h2 : ∀ Q : Value → Shared → Prop, (Q (.ref I) s) → wpAny (model O.prog O.w) A (pyIter (.ref I)) Q (notedBy (model O.prog O.w) A env fun x s' => R (.error x) s') s)
    (h : codeAny (model O.prog O.w) A (.compLoop e d (.ref I) acc env) R s) (hu : A.under (.compStart e d (.ref I) acc env) = A) : codeAny (model O.prog O.w) A (.compStart e d (.ref I) acc env) R s := by
  refine codeAny_of_tree ?_
  rw [hu]
  show wpAny _ _ (if (Code.compStart e d (.ref I) acc env).isFrame then _ else (compStart e d (.ref I) acc env).onRaise (fun x => do noteFrame x env; standAt theWindowsPlace)) _ _ s
  rw [hq]
  refine wpAny_notedAt ?_
  unfold compStart
  rw [hg]
  simp only [Option.elim, ha, bne_self_eq_false, Bool.false_eq_true, if_false]
  refine wpAny_bind (wpAny_askSetting ?_)
  split
  · exact wpAny_pure (And.intro rfl h)
  · refine wpAny_bind (wpAny_rule (wpAny_bind (wpAny_standAt (wpAny_bind (h2 _ (wpAny_pure (And.intro rfl h)))))))
end
end Mine
namespace Mine
section
variable {N : Type} {O : Om} {c : Cx N} {A : Around} {env : Env}

/-- how a comprehension's loop ends-/
def CompEnd (O : Om) (c : Cx N) (A : Around) (env : Env) (Φ : Addr → Option Obj) (T₀ : TM N) (s₀ : Shared) (D : Addr) (X : V N → Sto N → Prop) (Q : List (V N) → Loc N → Sto N → Prop) : Result → Shared → Prop := fun r s => match r with
  | .ok f => PostC O c A env Φ T₀ s₀ D Q s
  | .error x => PostN O c A env Φ T₀ s₀ (fun v _ σ => X v σ) x s

theorem compLoop_ok {elt : PySem.Expr} {gens : List Comprehension} {sc : Scope} {pos : Pos} {m : ME} {X : V N → Sto N → Prop} (hg : c.hd.good = true) (helt : CE O c.fc elt m) :
    ∀ (rest : List MG) {fo : FC} {t : MT} {mi : ME} {ifs : List ME} {d : Nat} {g : Comprehension} {gtail : List Comprehension}, gens.drop d = g :: gtail → CGs O fo c.fc (g :: gtail) (.mk t mi ifs :: rest) →
    ∀ {vs : List (V N)} {it : AI N} {K : Sto N → Prop} {acc : List (V N)} {Q : List (V N) → Loc N → Sto N → Prop} {T₀ T : TM N} {s₀ s : Shared} {ρ : Loc N} {σ : Sto N} {Φ : Addr → Option Obj} {D I : Addr} {o : Obj} {xs : Array Value} {nn : Nat},
      EnvOk O c A env T Φ → Φ I = none → Φ D = none → I ≠ D → I ≠ env.locals → D ≠ env.locals → Ext T₀ s₀ T s → At O c A env T (frAdd (frAdd Φ D (listOf xs nn)) I o) ρ σ s → VReps O T acc xs.toList → it.rep O T o → it.walks K vs → K σ →
      itemsW O c X t ifs (innerW O c X m rest) K vs acc ρ σ Q →
      codeAny (model O.prog O.w) A (.compLoop (.ListComp elt gens sc pos) d (.ref I) (.ref D) env) (CompEnd O c A env Φ T₀ s₀ D X Q) s := by
  intro rest
  induction rest with
  | nil =>
    intro fo t mi ifs d g gtail hd hgs vs it K acc Q T₀ T s₀ s ρ σ Φ D I o xs nn h₀ hI hD hID hIL hDL e₀ hA hacc hit hw hK hf
    have hgd : gens[d]? = some g := by have := congrArg List.head? hd; simpa using this
    have hgt : gens.drop (d + 1) = gtail := by have := congrArg List.tail hd; simpa using this
    cases hgs with
    | cons _ _ _ _ hbad => cases hbad
    | one ht hi hifs hns =>
    rename_i xt xi xifs
    have hgd' : gens[d + 1]? = none := by have := congrArg List.head? hgt; simpa using this
    have ha' : ∀ g'', gens[d + 1]? = some g'' → g''.is_async = 0 := fun g'' e => by rw [hgd'] at e; cases e
    refine codeAny_loop rfl (fun n s' => ∃ (T' : TM N) (ρ' : Loc N) (σ' : Sto N) (it : AI N) (o : Obj) (xs : Array Value) (nn : Nat) (vs acc : List (V N)), n = vs.length ∧ Ext T₀ s₀ T' s' ∧ T.le T' ∧ At O c A env T' (frAdd (frAdd Φ D (listOf xs nn)) I o) ρ' σ' s' ∧ VReps O T' acc xs.toList ∧ it.rep O T' o ∧ it.walks K vs ∧ K σ' ∧
      itemsW O c X t ifs (innerW O c X m []) K vs acc ρ' σ' Q) ?_ vs.length ⟨T, ρ, σ, it, o, xs, nn, vs, acc, rfl, e₀, TM.le_refl _, hA, hacc, hit, hw, hK, hf⟩
    rintro n s₁ ⟨T₁, ρ₁, σ₁, it, o, xs, nn, vs, acc, rfl, e₁, le₁, h₁, hacc, hit, hw, hK, hf⟩
    show wpAny _ A ((compTurn (.ListComp elt gens sc pos) d (.ref I) (.ref D) env).onRaise (fun x => do noteFrame x env; theTreesLotGoes x)) _ _ s₁
    refine wpAny_noted ?_
    rw [compTurn_eq hgd rfl ha']
    refine wpAny_bind (wpAny_standAt (wpAny_bind ?_))
    have hI' : (frAdd Φ D (listOf xs nn)) I = none := by rw [frAdd_ne hID]; exact hI
    have env₁ := h₀.mono le₁
    obtain ⟨r, hr⟩ := walks_next hw hK
    refine next_ok h₁ (env₁.frAdd hD) hI' hIL hg hit hr (fun hn s₂ e₂ h₂ => ?_) fun v it' hv' o' x s₂ e₂ h₂ hit' hvx => ?_
    · subst hn
      cases vs with
      | nil => exact wpAny_pure ⟨T₁, ρ₁, σ₁, acc, e₁.trans e₂, ⟨xs, nn, h₂, hacc⟩, hf⟩
      | cons v r =>
        obtain ⟨it', h1, _⟩ := hw
        rw [h1 σ₁ hK] at hr
        cases hr
    · subst hv'
      cases vs with
      | nil =>
        have := hw σ₁ hK
        rw [hr] at this
        cases this
      | cons v₀ r =>
      obtain ⟨it₀, h1, hw'⟩ := hw
      rw [h1 σ₁ hK] at hr
      cases hr
      -- the ways out
      have wayX : ∀ {T₅ : TM N} {s₅ s₆ : Shared} {y : Value} {xs' : Array Value} {n' : Nat}, Ext T₀ s₀ T₅ s₅ → T.le T₅ → PostX O c A env (frAdd (frAdd Φ D (listOf xs' n')) I o') T₅ s₅ (fun v _ σ => X v σ) y s₆ →
          notedBy (model O.prog O.w) A env (fun e s' => CompEnd O c A env Φ T₀ s₀ D X Q (.error e) s') y s₆ := fun e₅ le₅ hp =>
        noted_ok ((hp.letGo2 (h₀.mono le₅) hI hD hID hIL hDL).ext e₅) fun _ h => h
      have nextTurn : ∀ {T₅ : TM N} {s₅ : Shared} {ρ₅ : Loc N} {σ₅ : Sto N} {acc' : List (V N)} {xs' : Array Value} {n' : Nat}, Ext T₀ s₀ T₅ s₅ → T₁.le T₅ → At O c A env T₅ (frAdd (frAdd Φ D (listOf xs' n')) I o') ρ₅ σ₅ s₅ → VReps O T₅ acc' xs'.toList →
          K σ₅ ∧ itemsW O c X t ifs (innerW O c X m []) K r acc' ρ₅ σ₅ Q → ∃ k, k < (v :: r).length ∧ ∃ (T' : TM N) (ρ' : Loc N) (σ' : Sto N) (it : AI N) (o : Obj) (xs : Array Value) (nn : Nat) (vs acc : List (V N)), k = vs.length ∧ Ext T₀ s₀ T' s₅ ∧ T.le T' ∧ At O c A env T' (frAdd (frAdd Φ D (listOf xs nn)) I o) ρ' σ' s₅ ∧ VReps O T' acc xs.toList ∧ it.rep O T' o ∧ it.walks K vs ∧ K σ' ∧
          itemsW O c X t ifs (innerW O c X m []) K vs acc ρ' σ' Q := fun e₅ le₅ h₅ hacc' hq =>
        ⟨r.length, by simp, _, _, _, _, _, _, _, r, _, rfl, e₅, TM.le_trans le₁ le₅, h₅, hacc', AI.rep_mono le₅ hit', hw', hq.1, hq.2⟩
      refine wpAny_bind (go_tuple h₂ hit' (wpAny_bind ?_))
      refine wpAny_mono (hf A env T₁ _ s₂ xt x ht h₂ hvx) (fun _ s₃ h₃ => ?_) fun y s₃ h₃ => wayX (e₁.trans e₂) le₁ h₃
      obtain ⟨T₃, ρ₃, σ₃, af, le₃, hA₃, hg₃, ho₃, _, hq₃⟩ := h₃
      have ex₃ : Ext T₀ s₀ T₃ s₃ := (e₁.trans e₂).trans ⟨le₃, hg₃, ho₃⟩
      refine wpAny_bind (wpAny_mono (cond_ok hifs (.refl T₃ s₃) hA₃ hq₃ fun T₄ σ₄ b s₄ e₄ le₄ hA₄ hq₄ => ?_) (fun _ _ h => h) fun y s₄ h₄ => wayX ex₃ (TM.le_trans le₁ le₃) h₄.toX)
      have ex₄ := ex₃.trans e₄
      cases b with
      | false =>
        rw [if_neg (by decide)]
        exact wpAny_pure ⟨rfl, nextTurn ex₄ (TM.le_trans le₃ le₄) hA₄ (hacc.mono (TM.le_trans le₃ le₄)) hq₄⟩
      | true =>
        rw [if_pos rfl, hgd']
        dsimp only
        obtain ⟨hlen, hq₄⟩ := hq₄
        refine wpAny_bind (wpAny_mono (hq₄ A env T₄ _ s₄ _ helt hA₄) (fun x s₅ h₅ => ?_) fun y s₅ h₅ => wayX ex₄ (TM.le_trans le₁ (TM.le_trans le₃ le₄)) h₅.toX)
        obtain ⟨T₅, σ₅, wv, le₅, hA₅, hg₅, ho₅, hwv, hq₅⟩ := h₅
        have ex₅ : Ext T₀ s₀ T₅ s₅ := ex₄.trans ⟨le₅, hg₅, ho₅⟩
        have le₁₅ := TM.le_trans (TM.le_trans le₃ le₄) le₅
        have hAD := hA₅
        rw [frAdd_comm (Φ := Φ) (a := D) (b := I) (Ne.symm hID)] at hAD
        obtain ⟨hTD, hexD, _⟩ := hAD.rep.frs D (listOf xs nn) frAdd_self
        have hDo := hexD fun z => z.2 _ _ rfl
        have hacc₅ := hacc.mono le₁₅
        refine wpAny_bind (append_raw hDo (by rw [← Array.length_toList, hacc₅.length, sizeLine_eq]; omega) fun h' n' ho' hs => ?_)
        have hD' : frAdd Φ I o' D = none := by rw [frAdd_ne (Ne.symm hID)]; exact hD
        have hA₆ := hAD.turn (s' := { s₅ with heap := h' }) (o' := listOf (xs.push x) n') ((h₀.mono (TM.le_trans le₁ le₁₅)).frAdd hI) hD' hDL hs.extBut ho'
        refine wpAny_pure ⟨rfl, nextTurn (acc' := acc ++ [wv]) (xs' := xs.push x) (ex₅.trans ⟨TM.le_refl _, rfl, rfl⟩) le₁₅ (by rw [frAdd_comm (Φ := Φ) (a := D) (b := I) (Ne.symm hID)]; exact hA₆) ?_ hq₅⟩
        rw [Array.toList_push]
        exact hacc₅.append (.cons hwv .nil)
  | cons mg rest ih =>
    intro fo t mi ifs d g gtail hd hgs vs it K acc Q T₀ T s₀ s ρ σ Φ D I o xs nn h₀ hI hD hID hIL hDL e₀ hA hacc hit hw hK hf
    have hgd : gens[d]? = some g := by have := congrArg List.head? hd; simpa using this
    have hgt : gens.drop (d + 1) = gtail := by have := congrArg List.tail hd; simpa using this
    cases hgs with
    | cons ht hi hifs hns hrest =>
    rename_i xt xi xifs g' gs'
    have hgd' : gens[d + 1]? = some g' := by have := congrArg List.head? hgt; simpa using this
    have ha' : ∀ g'', gens[d + 1]? = some g'' → g''.is_async = 0 := fun g'' e => by
      rw [hgd'] at e; cases e
      cases hrest <;> rfl
    refine codeAny_loop rfl (fun n s' => ∃ (T' : TM N) (ρ' : Loc N) (σ' : Sto N) (it : AI N) (o : Obj) (xs : Array Value) (nn : Nat) (vs acc : List (V N)), n = vs.length ∧ Ext T₀ s₀ T' s' ∧ T.le T' ∧ At O c A env T' (frAdd (frAdd Φ D (listOf xs nn)) I o) ρ' σ' s' ∧ VReps O T' acc xs.toList ∧ it.rep O T' o ∧ it.walks K vs ∧ K σ' ∧
      itemsW O c X t ifs (innerW O c X m (mg :: rest)) K vs acc ρ' σ' Q) ?_ vs.length ⟨T, ρ, σ, it, o, xs, nn, vs, acc, rfl, e₀, TM.le_refl _, hA, hacc, hit, hw, hK, hf⟩
    rintro n s₁ ⟨T₁, ρ₁, σ₁, it, o, xs, nn, vs, acc, rfl, e₁, le₁, h₁, hacc, hit, hw, hK, hf⟩
    show wpAny _ A ((compTurn (.ListComp elt gens sc pos) d (.ref I) (.ref D) env).onRaise (fun x => do noteFrame x env; theTreesLotGoes x)) _ _ s₁
    refine wpAny_noted ?_
    rw [compTurn_eq hgd rfl ha']
    refine wpAny_bind (wpAny_standAt (wpAny_bind ?_))
    have hI' : (frAdd Φ D (listOf xs nn)) I = none := by rw [frAdd_ne hID]; exact hI
    have env₁ := h₀.mono le₁
    obtain ⟨r, hr⟩ := walks_next hw hK
    refine next_ok h₁ (env₁.frAdd hD) hI' hIL hg hit hr (fun hn s₂ e₂ h₂ => ?_) fun v it' hv' o' x s₂ e₂ h₂ hit' hvx => ?_
    · subst hn
      cases vs with
      | nil => exact wpAny_pure ⟨T₁, ρ₁, σ₁, acc, e₁.trans e₂, ⟨xs, nn, h₂, hacc⟩, hf⟩
      | cons v r =>
        obtain ⟨it', h1, _⟩ := hw
        rw [h1 σ₁ hK] at hr
        cases hr
    · subst hv'
      cases vs with
      | nil =>
        have := hw σ₁ hK
        rw [hr] at this
        cases this
      | cons v₀ r =>
      obtain ⟨it₀, h1, hw'⟩ := hw
      rw [h1 σ₁ hK] at hr
      cases hr
      -- the ways out
      have wayX : ∀ {T₅ : TM N} {s₅ s₆ : Shared} {y : Value} {xs' : Array Value} {n' : Nat}, Ext T₀ s₀ T₅ s₅ → T.le T₅ → PostX O c A env (frAdd (frAdd Φ D (listOf xs' n')) I o') T₅ s₅ (fun v _ σ => X v σ) y s₆ →
          notedBy (model O.prog O.w) A env (fun e s' => CompEnd O c A env Φ T₀ s₀ D X Q (.error e) s') y s₆ := fun e₅ le₅ hp =>
        noted_ok ((hp.letGo2 (h₀.mono le₅) hI hD hID hIL hDL).ext e₅) fun _ h => h
      have nextTurn : ∀ {T₅ : TM N} {s₅ : Shared} {ρ₅ : Loc N} {σ₅ : Sto N} {acc' : List (V N)} {xs' : Array Value} {n' : Nat}, Ext T₀ s₀ T₅ s₅ → T₁.le T₅ → At O c A env T₅ (frAdd (frAdd Φ D (listOf xs' n')) I o') ρ₅ σ₅ s₅ → VReps O T₅ acc' xs'.toList →
          K σ₅ ∧ itemsW O c X t ifs (innerW O c X m (mg :: rest)) K r acc' ρ₅ σ₅ Q → ∃ k, k < (v :: r).length ∧ ∃ (T' : TM N) (ρ' : Loc N) (σ' : Sto N) (it : AI N) (o : Obj) (xs : Array Value) (nn : Nat) (vs acc : List (V N)), k = vs.length ∧ Ext T₀ s₀ T' s₅ ∧ T.le T' ∧ At O c A env T' (frAdd (frAdd Φ D (listOf xs nn)) I o) ρ' σ' s₅ ∧ VReps O T' acc xs.toList ∧ it.rep O T' o ∧ it.walks K vs ∧ K σ' ∧
          itemsW O c X t ifs (innerW O c X m (mg :: rest)) K vs acc ρ' σ' Q := fun e₅ le₅ h₅ hacc' hq =>
        ⟨r.length, by simp, _, _, _, _, _, _, _, r, _, rfl, e₅, TM.le_trans le₁ le₅, h₅, hacc', AI.rep_mono le₅ hit', hw', hq.1, hq.2⟩
      refine wpAny_bind (go_tuple h₂ hit' (wpAny_bind ?_))
      refine wpAny_mono (hf A env T₁ _ s₂ xt x ht h₂ hvx) (fun _ s₃ h₃ => ?_) fun y s₃ h₃ => wayX (e₁.trans e₂) le₁ h₃
      obtain ⟨T₃, ρ₃, σ₃, af, le₃, hA₃, hg₃, ho₃, _, hq₃⟩ := h₃
      have ex₃ : Ext T₀ s₀ T₃ s₃ := (e₁.trans e₂).trans ⟨le₃, hg₃, ho₃⟩
      refine wpAny_bind (wpAny_mono (cond_ok hifs (.refl T₃ s₃) hA₃ hq₃ fun T₄ σ₄ b s₄ e₄ le₄ hA₄ hq₄ => ?_) (fun _ _ h => h) fun y s₄ h₄ => wayX ex₃ (TM.le_trans le₁ le₃) h₄.toX)
      have ex₄ := ex₃.trans e₄
      cases b with
      | false =>
        rw [if_neg (by decide)]
        exact wpAny_pure ⟨rfl, nextTurn ex₄ (TM.le_trans le₃ le₄) hA₄ (hacc.mono (TM.le_trans le₃ le₄)) hq₄⟩
      | true =>
        rw [if_pos rfl, hgd']
        dsimp only
        cases mg with
        | mk t' mi' ifs' =>
        have hrest' := hrest
        have hiter : CE O c.fc g'.iter mi' ∧ (∀ e k q, g'.iter ≠ .Set e k q) := by
          cases hrest with
          | one a b d e => exact ⟨b, e⟩
          | cons a b d e f => exact ⟨b, e⟩
        have fs : ∀ x, foldedSetIterable g'.iter env x = pure x := fun x => by
          unfold foldedSetIterable
          split
          · rename_i hh; exact absurd hh (hiter.2 _ _ _)
          · rfl
        refine wpAny_bind (wpAny_mono (hq₄ A env T₄ _ s₄ _ hiter.1 hA₄) (fun w s₅ h₅ => ?_) fun y s₅ h₅ => wayX ex₄ (TM.le_trans le₁ (TM.le_trans le₃ le₄)) h₅.toX)
        obtain ⟨T₅, σ₅, wv, le₅, hA₅, hg₅, ho₅, hwv, vs', hwo, hf'⟩ := h₅
        have ex₅ : Ext T₀ s₀ T₅ s₅ := ex₄.trans ⟨le₅, hg₅, ho₅⟩
        have le₁₅ := TM.le_trans (TM.le_trans le₃ le₄) le₅
        obtain ⟨it2, hi2, hw2⟩ := walk_iter hwo
        refine wpAny_bind (wpAny_standAt (wpAny_bind ?_))
        rw [fs]
        refine wpAny_pure (wpAny_bind (wpAny_holding (iter_ok hA₅ hwv hi2 (walks_next hw2 hwo) fun I2 o2 s₆ e₆ hT₂ hΦ₂ hL₂ h₆ hit2 => ?_)))
        have hI2D : I2 ≠ D := fun q => by rw [q, frAdd_ne (Ne.symm hID), frAdd_self] at hΦ₂; cases hΦ₂
        have hI2I : I2 ≠ I := fun q => by rw [q, frAdd_self] at hΦ₂; cases hΦ₂
        have hΦI2 : frAdd Φ I o' I2 = none := by rw [frAdd_ne hI2I]; rw [frAdd_ne hI2I, frAdd_ne hI2D] at hΦ₂; exact hΦ₂
        have hΦD' : frAdd Φ I o' D = none := by rw [frAdd_ne (Ne.symm hID)]; exact hD
        have envI : EnvOk O c A env T₅ (frAdd Φ I o') := (h₀.mono (TM.le_trans le₁ le₁₅)).frAdd hI
        have h₆' : At O c A env T₅ (frAdd (frAdd (frAdd Φ I o') D (listOf xs nn)) I2 o2) ρ₃ σ₅ s₆ := by rw [frAdd_comm (Φ := Φ) (a := I) (b := D) hID]; exact h₆
        have inner := ih (Q := fun acc ρ σ => K σ ∧ itemsW O c X t ifs (innerW O c X m (.mk t' mi' ifs' :: rest)) K r acc ρ σ Q) hgt hrest' envI hΦI2 hΦD' hI2D hL₂ hDL (Ext.refl T₅ s₆) h₆' (hacc.mono le₁₅) hit2 hw2 hwo hf'
        have ex₆ := ex₅.trans e₆
        refine wpAny_bind (wpAny_runOwn ?_)
        rw [Around.mark_none]
        refine compStart_ok (by kernel_rfl) (show (clausesOf (.ListComp elt gens sc pos))[d + 1]? = some g' from hgd') (ha' _ hgd') (fun Q' k => self_iter h₆ hit2 k) ?_ (by kernel_rfl)
        refine codeAny_mono inner fun r' s₇ z => ?_
        cases r' with
        | error y =>
          have z : PostN O c A env (frAdd Φ I o') T₅ s₆ (fun v _ σ => X v σ) y s₇ := z
          refine back_ok z fun s₈ z' => ?_
          refine noted_ok (X := fun v _ σ => X v σ) ((z'.toX.letGo (h₀.mono (TM.le_trans le₁ le₁₅)) hI hIL).ext ex₆) fun _ h => h
        | ok f =>
          obtain ⟨T₇, ρ₇, σ₇, acc₇, e₇, ⟨xs₇, n₇, h₇, hacc₇⟩, hq₇⟩ := z
          refine wpAny_pure ⟨rfl, nextTurn (ex₆.trans e₇) (TM.le_trans le₁₅ e₇.1) (by rw [← frAdd_comm (Φ := Φ) (a := I) (b := D) hID]; exact h₇) hacc₇ hq₇⟩
end
end Mine
namespace Mine
section
variable {N : Type} {O : Om} {c : Cx N} {A : Around} {env : Env} {T T₀ T₁ T₂ : TM N} {Φ : Addr → Option Obj} {ρ ρ₁ : Loc N} {σ σ' : Sto N} {s s₀ s₁ s' : Shared} {E : Value → Shared → Prop}

def compK (sc : Scope) (caps : List (Nat × Nat)) (κ : Nat → Option (V N)) : Nat → Option (V N) := fun j => match sc.names[j]? with
  | some (_, .free) => (caps.lookup j).bind κ
  | _ => none
def compFC (sc : Scope) (fc : FC) : FC := ⟨relab sc fc.scope, fc.qual, fc.nest⟩
def compCx (sc : Scope) (caps : List (Nat × Nat)) (c : Cx N) : Cx N := ⟨compFC sc c.fc, compK sc caps c.κ, c.D, c.hd⟩
def capAll (sc : Scope) (caps : List (Nat × Nat)) (κ : Nat → Option (V N)) : Bool := (List.range sc.names.length).all fun j => match sc.names[j]? with
  | some (_, .free) => ((caps.lookup j).bind κ).isSome
  | _ => true

theorem relab_at {sc out : Scope} {j : Nat} {x : Str} {k : NameKind} (h : sc.names[j]? = some (x, k)) : (relab sc out).names[j]? = some (x, if (k == .free && out.kind == .function && out.names.lookup x == some .cell) then .cell else k) := by
  unfold relab
  rw [List.getElem?_map, h]
  simp only [Option.map_some]
  split <;> rfl
theorem relab_fst (sc out : Scope) : (relab sc out).names.map (·.1) = sc.names.map (·.1) := by
  unfold relab
  rw [List.map_map]
  congr 1
  funext p
  obtain ⟨n, k⟩ := p
  simp only [Function.comp]
  split <;> rfl

theorem closure_any (f : Str × NameKind → List (Str × Addr) → Sem (ForInStep (List (Str × Addr))))
    (hf : ∀ name kind cells, f (name, kind) cells = if kind == .free then (do let a ← cellOf env name; pure (.yield ((name, a) :: cells))) else pure (.yield cells)) :
    ∀ (names : List (Str × NameKind)) (acc : List (Str × Addr)), (names.map (·.1)).Nodup → (∀ x, (x, NameKind.free) ∈ names → ∃ a, env.cells.lookup x = some a) →
      ∃ cl, forIn names acc f = pure cl ∧ (∀ x, (x, NameKind.free) ∈ names → cl.lookup x = env.cells.lookup x) ∧ ∀ x, x ∉ names.map (·.1) → cl.lookup x = acc.lookup x
  | [], acc, _, _ => ⟨acc, rfl, fun x h => by simp at h, fun _ _ => rfl⟩
  | (x, k) :: r, acc, hn, h => by
    rw [List.map_cons, List.nodup_cons] at hn
    rw [List.forIn_cons, hf]
    by_cases hk : k = .free
    · subst hk
      obtain ⟨a, ha⟩ := h x List.mem_cons_self
      obtain ⟨cl, h1, h2, h3⟩ := closure_any f hf r ((x, a) :: acc) hn.2 fun y hy => h y (List.mem_cons_of_mem _ hy)
      have e0 : cellOf env x = pure a := by unfold cellOf; rw [ha]
      refine ⟨cl, ?_, fun y hy => ?_, fun y hy => ?_⟩
      · rw [e0]; simp only [beq_self_eq_true, if_true, pure_bind]; exact h1
      · rcases List.mem_cons.mp hy with e | hy
        · cases e
          rw [h3 x hn.1, List.lookup_cons, ha]; simp
        · exact h2 y hy
      · rw [List.map_cons, List.mem_cons, not_or] at hy
        rw [h3 y hy.2, List.lookup_cons]
        have : (y == x) = false := by simp [hy.1]
        rw [this]
    · have hkf : (k == NameKind.free) = false := by cases k <;> first | rfl | exact absurd rfl hk
      obtain ⟨cl, h1, h2, h3⟩ := closure_any f hf r acc hn.2 fun y hy => h y (List.mem_cons_of_mem _ hy)
      refine ⟨cl, ?_, fun y hy => ?_, fun y hy => ?_⟩
      · rw [if_neg (by rw [hkf]; decide)]; exact h1
      · rcases List.mem_cons.mp hy with e | hy
        · cases e; exact absurd rfl hk
        · exact h2 y hy
      · rw [List.map_cons, List.mem_cons, not_or] at hy
        exact h3 y hy.2

theorem leave' {Φ' : Addr → Option Obj} {h h' : Heap} {o : Obj} (hF : FrOk O c.fc T Φ ρ h env.locals) (ho : h.get? env.locals = some o) (le : T.le T₁) (hoff : Φ' env.locals = none) (henv : EnvOk O c A env T₁ Φ') (hR : Rep O T₁ (frAdd Φ' env.locals o) σ' h') : At O c A env T₁ Φ' ρ σ' { s' with heap := h' } := by
  obtain ⟨m, ⟨oL, es, ep, hL, hLd, hLk, hLf⟩, hρ⟩ := hF.ns
  rw [ho] at hL; cases hL
  obtain ⟨f1, f2, sl, f3⟩ := hR.frs env.locals o frAdd_self
  refine ⟨⟨hR.trk, fun b x e => hR.frs b x ?_, hR.own, hR.inj, hR.pin, hR.base, hR.tabs, hR.noted⟩, ⟨f1, hoff, m, ⟨_, es, ep, f3, hLd, hLk, hLf⟩, fun i v e => ?_⟩, henv⟩
  · rw [frAdd_ne fun q => by rw [q, hoff] at e; cases e]; exact e
  · obtain ⟨x, val, p, q, r⟩ := hρ i v e
    exact ⟨x, val, p, q, r.mono le⟩
theorem Rep.extFree {h h' : Heap} {C : Addr} (R : Rep O T Φ σ h) (hT : T C = none) (hΦ : Φ C = none) (hx : Heap.ExtBut C h h') : Rep O T Φ σ h' := by
  refine ⟨fun a t e => ?_, fun a x e => ?_, R.own, R.inj, R.pin, R.base, R.tabs, fun b y e => ?_⟩
  · obtain ⟨ob, p, q⟩ := R.trk a t e
    exact ⟨ob, hx a ob (fun z => by rw [z, hT] at e; cases e) p, q⟩
  · have q : a ≠ C := fun z => by rw [z, hΦ] at e; cases e
    obtain ⟨p, w, sl, r⟩ := R.frs a x e
    exact ⟨p, fun z => hx a _ q (w z), sl, hx a _ q r⟩
  · obtain ⟨cc, cf, d, ob, vs, b', w1, w2, w3⟩ := R.noted b y e
    exact ⟨cc, cf, d, ob, vs, b', w1, hx y ob (fun z => by rw [z, hT] at w1; cases w1) w2, w3⟩
theorem At.extFree {C : Addr} {h' : Heap} {tk : Nat} (hA : At O c A env T Φ ρ σ s) (hT : T C = none) (hΦ : Φ C = none) (hC : C ≠ env.locals) (hx : Heap.ExtBut C s.heap h') : At O c A env T Φ ρ σ { s with heap := h', toks := tk } :=
  ⟨hA.rep.extFree hT hΦ hx, ⟨hA.fr.fresh, hA.fr.off, let ⟨m, p, q⟩ := hA.fr.ns; ⟨m, p.extBut hx (Ne.symm hC), q⟩⟩, hA.env⟩

/-- into a comprehension-/
theorem comp_enter {h₁ : Heap} {tk : Nat} {I D C : Addr} {o lo : Obj} {sc : Scope} {caps : List (Nat × Nat)} {cl : List (Str × Addr)} (hA : At O c A env T (frAdd (frAdd Φ I o) D lo) ρ σ s) (h₀ : EnvOk O c A env T Φ) (hI : Φ I = none) (hD : Φ D = none) (hID : I ≠ D) (hIL : I ≠ env.locals) (hDL : D ≠ env.locals)
    (hC : s.heap.objs.size = C) (hns : h₁.Ns C fun _ => none) (hk : ∀ b o, s.heap.get? b = some o → h₁.get? b = some o) (hkind : sc.kind = .function) (hnd : (sc.names.map (·.1)).Nodup) (hco : sc.isCoroutine = false)
    (hcl : ∀ x, (x, NameKind.free) ∈ sc.names → cl.lookup x = env.cells.lookup x) (hfree : ∀ j x, sc.names[j]? = some (x, .free) → ∃ i, caps.lookup j = some i ∧ (c.fc.at i x .cell ∨ c.fc.at i x .free)) :
    ∃ oL, s.heap.get? env.locals = some oL ∧ C ≠ env.locals ∧ C ≠ I ∧ C ≠ D ∧ T C = none ∧ Φ C = none ∧ EnvOk O (compCx sc caps c) A (compEnvC sc cl C env) T (frAdd Φ env.locals oL) ∧ At O (compCx sc caps c) A (compEnvC sc cl C env) T (frAdd (frAdd (frAdd Φ env.locals oL) D lo) I o) (fun _ => none) σ { s with heap := h₁, toks := tk } := by
  obtain ⟨m, hm, hρ⟩ := hA.fr.ns
  have hlt := hm.lt
  obtain ⟨oL, es, ep, hL, hLd, hLk, hLf⟩ := id hm
  have R₀ : Rep O T (frAdd (frAdd (frAdd Φ I o) D lo) env.locals oL) σ s.heap := by
    refine ⟨hA.rep.trk, fun b o e => ?_, hA.rep.own, hA.rep.inj, hA.rep.pin, hA.rep.base, hA.rep.tabs, hA.rep.noted⟩
    by_cases q : b = env.locals
    · subst q
      rw [frAdd_self] at e; cases e
      exact ⟨hA.fr.fresh, fun _ => hL, oL.slots, hL⟩
    · rw [frAdd_ne q] at e; exact hA.rep.frs b o e
  have ePhi : frAdd (frAdd (frAdd Φ I o) D lo) env.locals oL = frAdd (frAdd (frAdd Φ env.locals oL) D lo) I o := by
    rw [frAdd_comm (Φ := frAdd Φ I o) (a := D) (b := env.locals) hDL, frAdd_comm (Φ := Φ) (a := I) (b := env.locals) hIL, frAdd_comm (Φ := frAdd Φ env.locals oL) (a := I) (b := D) hID]
  have hTC : T C = none := by rw [← hC]; exact hA.rep.size_none
  have hΦC : frAdd (frAdd Φ I o) D lo C = none := by rw [← hC]; exact hA.rep.size_none_fr
  have hCL : C ≠ env.locals := fun q => by rw [← q, ← hC] at hlt; exact Nat.lt_irrefl _ hlt
  have hCD : C ≠ D := fun q => by rw [q, frAdd_self] at hΦC; cases hΦC
  have hCI : C ≠ I := fun q => by rw [frAdd_ne hCD, q, frAdd_self] at hΦC; cases hΦC
  have hΦC' : Φ C = none := by rw [frAdd_ne hCD, frAdd_ne hCI] at hΦC; exact hΦC
  have frL : FrLike oL := ⟨(fun vs e => by rw [hLd] at e; cases e), fun xs n e => by rw [hLd] at e; cases e⟩
  have hΦL : Φ env.locals = none := by have := hA.fr.off; rw [frAdd_ne (Ne.symm hDL), frAdd_ne (Ne.symm hIL)] at this; exact this
  suffices hE : EnvOk O (compCx sc caps c) A (compEnvC sc cl C env) T (frAdd Φ env.locals oL) by
    refine ⟨oL, hL, hCL, hCI, hCD, hTC, hΦC', hE, ?_⟩
    rw [← ePhi]
    refine ⟨R₀.keeps hk, ⟨hTC, ?_, _, hns, fun i v e => by cases e⟩, ?_⟩
    · show frAdd (frAdd (frAdd Φ I o) D lo) env.locals oL C = none
      rw [frAdd_ne hCL]; exact hΦC
    · rw [ePhi]
      exact EnvOk.frAdd (EnvOk.frAdd hE (by rw [frAdd_ne hDL]; exact hD)) (by rw [frAdd_ne hID, frAdd_ne hIL]; exact hI)
  · refine ⟨?_, hkind, ?_, hco, h₀.qual, h₀.globals, h₀.builtins, fun j v e => ?_, h₀.code, ?_, h₀.hdok, h₀.depth, h₀.units⟩
    · show relabel sc env = relab sc c.fc.scope
      unfold relabel relab Env.kindOf
      rw [h₀.scope]
    · show ((relab sc c.fc.scope).names.map (·.1)).Nodup
      rw [relab_fst]; exact hnd
    · have e : compK sc caps c.κ j = some v := e
      unfold compK at e
      cases q : sc.names[j]? with
      | none => rw [q] at e; cases e
      | some p =>
        obtain ⟨x, k⟩ := p
        rw [q] at e
        cases k with
        | free =>
          obtain ⟨i, hi, hat⟩ := hfree j x q
          have e : (caps.lookup j).bind c.κ = some v := e
          rw [hi] at e
          obtain ⟨y, k', a, g1, g2, g3, g4⟩ := h₀.cells i v e
          have hxy : y = x := by rcases hat with h | h <;> exact (at_inj g1 h).1
          subst hxy
          refine ⟨y, _, a, relab_at q, ?_, (hcl y (List.mem_of_getElem? q)).trans g3, g4⟩
          split
          · exact .inl rfl
          · exact .inr rfl
        | _ => cases e
    · obtain ⟨e0, l, f1, f2, f3⟩ := h₀.frames
      refine ⟨e0, l, f1, f2, fun e he => ?_⟩
      obtain ⟨g1, L, g2, g3⟩ := f3 e he
      refine ⟨g1, L, g2, .inr ?_⟩
      rcases g3 with rfl | ⟨o', p, q⟩
      · exact ⟨oL, frAdd_self, frL⟩
      · exact ⟨o', by rw [frAdd_ne fun z => by rw [z, hΦL] at p; cases p]; exact p, q⟩
end
end Mine
namespace Mine
section
variable {N : Type} {O : Om} {c : Cx N} {A : Around} {env : Env} {T T₀ T₁ T₂ : TM N} {Φ : Addr → Option Obj} {ρ ρ₁ : Loc N} {σ σ' : Sto N} {s s₀ s₁ s' : Shared} {E : Value → Shared → Prop}

/-- a comprehension, to the use of its list: `fin` takes the list in hand and gives what holds behind-/
theorem comp_run {elt : PySem.Expr} {gs : List Comprehension} {sc : Scope} {p pos : Pos} {m m0 : ME} {t : MT} {ifs : List ME} {rest : List MG} {caps : List (Nat × Nat)} {X : V N → Sto N → Prop} {Qf : List (V N) → Sto N → Prop} {use : Option (Value → Sem Unit)} {R : Value → Shared → Prop} (ok : O.Ok) (hg : c.hd.good = true)
    (hcap : capAll sc caps c.κ = true) (hce : CE O c.fc (.ListComp elt gs sc p) (.comp m (.mk t m0 ifs :: rest) sc caps)) (hA : At O c A env T Φ ρ σ s)
    (h : AE O c m0 ρ σ (fun w σ => ∃ vs, walkOf σ w = some vs ∧ itemsW O (compCx sc caps c) X t ifs (innerW O (compCx sc caps c) X m rest) (fun σ' => walkOf σ' w = some vs) vs [] (fun _ => none) σ (fun acc _ σ => Qf acc σ)) X)
    (fin : ∀ T' σ' acc D xs n C mC s', Ext T s T' s' → At O c A env T' (frAdd Φ D (listOf xs n)) ρ σ' s' → EnvOk O c A env T' Φ → Φ D = none → D ≠ env.locals → VReps O T' acc xs.toList → Qf acc σ' → s'.heap.Ns C mC → T' C = none → Φ C = none → C ≠ D → C ≠ env.locals →
      match use with
      | none => ∀ h', Heap.SameBut C s'.heap h' → R (.ref D) { s' with heap := h' }
      | some u => wpAny (model O.prog O.w) A (u (.ref D)) (fun _ s'' => ∃ mC, s''.heap.Ns C mC ∧ ∀ h', Heap.SameBut C s''.heap h' → R .none { s'' with heap := h' }) (PostY O c A env Φ ρ T s X) s') :
    wpAny (model O.prog O.w) A (comprehension (.ListComp elt gs sc p) sc env pos (newList []) (firstAsync gs) (firstIter gs env) use) R (PostY O c A env Φ ρ T s X) s := by
  cases hce with
  | comp hkind hnd hncell hgen hco hmore hfree helt hgens =>
  have hfr : ∀ x, (x, NameKind.free) ∈ sc.names → ∃ a, env.cells.lookup x = some a := fun x hx => by
    obtain ⟨j, hj⟩ := List.getElem?_of_mem hx
    obtain ⟨i, hi, hat⟩ := hfree j x hj
    have hlt : j < sc.names.length := (List.getElem?_eq_some_iff.mp hj).1
    have := List.all_eq_true.mp hcap j (List.mem_range.mpr hlt)
    rw [hj] at this
    have this : ((caps.lookup j).bind c.κ).isSome = true := this
    rw [hi] at this
    obtain ⟨v, hv⟩ := Option.isSome_iff_exists.mp this
    obtain ⟨y, k', a, g1, g2, g3, g4⟩ := hA.env.cells i v hv
    have hxy : y = x := by rcases hat with h | h <;> exact (at_inj g1 h).1
    exact ⟨a, hxy ▸ g3⟩
  obtain ⟨cl, hcl1, hcl2, _⟩ := closure_any (env := env) (fun (x : Str × NameKind) cells => if x.2 == .free then (do let a ← cellOf env x.1; pure (.yield ((x.1, a) :: cells))) else pure (.yield cells)) (fun name kind cells => rfl) sc.names [] hnd hfr
  have hclos : closureFor sc env = pure cl := by
    unfold closureFor
    rw [← hcl1, bind_pure]
  have hshape : ∃ g gt, gs = g :: gt ∧ g.is_async = 0 ∧ CE O c.fc g.iter m0 ∧ (∀ e k q, g.iter ≠ .Set e k q) := by
    cases hgens with
    | one a b d e => exact ⟨_, _, rfl, rfl, b, e⟩
    | cons a b d e f => exact ⟨_, _, rfl, rfl, b, e⟩
  obtain ⟨g, gt, rfl, hasync, hiter, hnset⟩ := hshape
  have fs : ∀ x, foldedSetIterable g.iter env x = pure x := fun x => by
    unfold foldedSetIterable
    split
    · rename_i hh; exact absurd hh (hnset _ _ _)
    · rfl
  have hfa : firstAsync (g :: gt) = false := by
    obtain ⟨a1, a2, a3, a4⟩ := g
    have : a4 = 0 := hasync
    subst this
    rfl
  have hfi : firstIter (g :: gt) env = eval g.iter env := by obtain ⟨a1, a2, a3, a4⟩ := g; rfl
  rw [hfa, hfi]
  refine wpAny_comprehension_free (use := use) rfl fs hclos hkind (fun x hx hl => ?_) (kE (.refl _ _) (h A env T Φ s _ hiter hA) fun T₁ σ₁ w x s₁ e₁ le₁ h₁ hwv hq => ?_)
  · obtain ⟨n, k⟩ := x
    have hl : k = .local := hl
    subst hl
    obtain ⟨j, hj⟩ := List.getElem?_of_mem hx
    exact nodup_lookup hnd hj
  obtain ⟨vs, hwo, hf⟩ := hq
  obtain ⟨it, hit0, hwalk⟩ := walk_iter hwo
  refine iter_ok h₁ hwv hit0 (walks_next hwalk hwo) fun I o s₂ e₂ hTI hΦI hIL h₂ hit => ?_
  have env₁ := h₁.env
  refine wpAny_newObj_type (wpAny_newFunctionEnv hncell (by intro y hy; simp at hy) (fun h₄ hns hsb => ?_) hkind)
  dsimp only at hns hsb ⊢
  have hTD := h₂.rep.size_none
  have hΦD' := h₂.rep.size_none_fr
  have hDL : s₂.heap.objs.size ≠ env.locals := fun q => Nat.lt_irrefl _ (q ▸ h₂.fr.lt)
  have hDI : s₂.heap.objs.size ≠ I := fun q => by rw [q, frAdd_self] at hΦD'; cases hΦD'
  have hΦD : Φ s₂.heap.objs.size = none := by rw [frAdd_ne hDI] at hΦD'; exact hΦD'
  have h₃ := h₂.hold (o := listOf #[] 0) (s' := { s₂ with heap := s₂.heap.push { cls := .type "list", dict := none, data := .seq ([] : List Value).toArray } }) hTD hΦD' hDL (fun b o' _ e => Heap.get?_push_of_some _ e) (Heap.get?_push_size _ rfl)
  obtain ⟨oL, hoL, hCL, hCI, hCD, hTC, hΦC, envI, h₄'⟩ := comp_enter (h₁ := h₄) (tk := s₂.toks + 0) (C := (s₂.heap.push { cls := .type "list", dict := none, data := .seq ([] : List Value).toArray }).objs.size) (sc := sc) (caps := caps) (cl := cl) h₃ env₁ hΦI hΦD (Ne.symm hDI) hIL hDL rfl hns
    (fun b o' e => hsb.extBut b o' (Nat.ne_of_lt (Heap.lt_size e)) (Heap.get?_push_of_some _ e)) hkind hnd hco hcl2 hfree
  have e₄ : Ext T s T₁ ({ s₂ with heap := h₄, toks := s₂.toks + 0 } : Shared) := e₁.trans (e₂.trans ⟨TM.le_refl _, rfl, rfl⟩)
  have ΦL : Φ env.locals = none := h₁.fr.off
  have loop := compLoop_ok (O := O) (c := compCx sc caps c) (A := A) (env := compEnvC sc cl _ env) (elt := elt) (gens := g :: gt) (sc := sc) (pos := p) (m := m) (X := X) hg helt rest (fo := c.fc) (d := 0) rfl hgens (Q := fun acc _ σ => Qf acc σ) (Φ := frAdd Φ env.locals oL) (D := s₂.heap.objs.size) (I := I) envI
    (by rw [frAdd_ne hIL]; exact hΦI) (by rw [frAdd_ne hDL]; exact hΦD) (Ne.symm hDI) (Ne.symm hCI) (Ne.symm hCD) (Ext.refl T₁ _) h₄' .nil hit hwalk hwo hf
  refine compStart_ok (by kernel_rfl) (show (clausesOf (.ListComp elt (g :: gt) sc p))[0]? = some g from rfl) hasync (fun Q' k => self_iter h₄' hit k) ?_ (by kernel_rfl)
  refine codeAny_mono loop fun r s₅ z => ?_
  cases r with
  | error y =>
    obtain ⟨T₅, ρ₅, σ₅, v, a, le₅, hA₅, hg₅, ho₅, rfl, hv₅, hx₅, hn₅, hX₅⟩ := z
    obtain ⟨mC, hmC, _⟩ := hA₅.fr.ns
    have ex : Ext T s T₅ s₅ := e₄.trans ⟨le₅, hg₅, ho₅⟩
    have goal : ∃ m, s₅.heap.Ns (s₂.heap.push { cls := .type "list", dict := none, data := .seq ([] : List Value).toArray }).objs.size m ∧ ∀ h', Heap.SameBut (s₂.heap.push { cls := .type "list", dict := none, data := .seq ([] : List Value).toArray }).objs.size s₅.heap h' → ∀ cenv : Env, cenv.locals = (s₂.heap.push { cls := .type "list", dict := none, data := .seq ([] : List Value).toArray }).objs.size →
        wpAny (model O.prog O.w) A (PySem.passOn "comprehension.variables-let-go" (.ref a) cenv : Sem Value) (fun _ _ => False) (PostY O c A env Φ ρ T s X) { s₅ with heap := h' } := by
      refine ⟨mC, hmC, fun h' hs cenv _ => ?_⟩
      have hR := hA₅.rep.extFree hA₅.fr.fresh hA₅.fr.off hs.extBut
      have hO : At O c A env T₅ Φ ρ σ₅ { s₅ with heap := h' } := leave' (s' := s₅) h₃.fr hoL le₅ ΦL (env₁.mono le₅) hR
      obtain ⟨ob, us, b, g1, g2, g3⟩ := hO.noted hn₅
      obtain ⟨a', cc, cf, d, e, ha⟩ := exc_of hv₅ hx₅
      cases e
      unfold PySem.passOn
      refine wpAny_bind (wpAny_field g1 g2 g3 ?_)
      rw [if_neg (by simp)]
      refine wpAny_bind (setFlight_ok hO ha fun s₆ e₆ h₆ => wpAny_throw ?_)
      exact ⟨T₅, σ₅, v, (ex.trans e₆).1, h₆, (ex.trans e₆).2.1, (ex.trans e₆).2.2, hv₅, hx₅, hX₅⟩
    cases use <;> exact goal
  | ok f =>
    obtain ⟨T₅, ρ₅, σ₅, acc, e₅, ⟨xs, n, hA₅, hacc⟩, hq⟩ := z
    obtain ⟨mC, hmC, _⟩ := hA₅.fr.ns
    have hoff := hA₅.fr.off
    have hTC₅ := hA₅.fr.fresh
    have hR := hA₅.rep
    rw [frAdd_comm (Φ := Φ) (a := env.locals) (b := s₂.heap.objs.size) (Ne.symm hDL)] at hR
    have hO : At O c A env T₅ (frAdd Φ s₂.heap.objs.size (listOf xs n)) ρ σ₅ s₅ := leave' (s' := s₅) h₃.fr hoL e₅.1 (by rw [frAdd_ne (Ne.symm hDL)]; exact ΦL) ((env₁.mono e₅.1).frAdd hΦD) hR
    have fin' := fin T₅ σ₅ acc s₂.heap.objs.size xs n _ mC s₅ (e₄.trans e₅) hO (env₁.mono e₅.1) hΦD hDL hacc hq hmC hTC₅ hΦC hCD hCL
    cases use with
    | none => exact ⟨mC, hmC, fin'⟩
    | some u => exact fin'

theorem AE.comp {m m0 : ME} {t : MT} {ifs : List ME} {rest : List MG} {sc : Scope} {caps : List (Nat × Nat)} {Q X : V N → Sto N → Prop} (ok : O.Ok) (hg : c.hd.good = true) (hcap : capAll sc caps c.κ = true)
    (h : AE O c m0 ρ σ (fun w σ => ∃ vs, walkOf σ w = some vs ∧ itemsW O (compCx sc caps c) X t ifs (innerW O (compCx sc caps c) X m rest) (fun σ' => walkOf σ' w = some vs) vs [] (fun _ => Option.none) σ (fun acc _ σ => Q (.lst acc) σ)) X) :
    AE O c (.comp m (.mk t m0 ifs :: rest) sc caps) ρ σ Q X := fun A env T Φ s e he hA => by
  have hce := he
  cases he with
  | comp =>
    rw [eval_ListComp]
    refine comp_run (use := Option.none) (R := Post O c A env Φ ρ T s Q) ok hg hcap hce hA (Qf := fun acc σ => Q (.lst acc) σ) h fun T' σ' acc D xs n C mC s' e' hA' h₀ hD hDL hacc hq hmC hTC hΦC hCD hCL h' hs => ?_
    have hO := hA'.adopt h₀ hD hDL fun z => z.2 _ _ rfl
    have hTD := (hA'.rep.frs D _ frAdd_self).1
    have le := TM.le_ins (t := (Trk.fro (listOf xs n) : Trk N)) hTD
    have hO' := hO.extFree (tk := s'.toks) (h' := h') (C := C) (by rw [TM.ins_ne hCD]; exact hTC) hΦC hCL hs.extBut
    exact .mk' hO' (e'.trans ⟨le, rfl, rfl⟩) (by unfold VRep; exact ⟨D, xs, n, rfl, TM.ins_self, VReps.mono le _ hacc⟩) hq
end
end Mine
namespace Mine
section
variable {N : Type} {O : Om} {c : Cx N} {A : Around} {env : Env} {T T₀ T₁ T₂ : TM N} {Φ : Addr → Option Obj} {ρ ρ₁ : Loc N} {σ σ' : Sto N} {s s₀ s₁ s' : Shared} {E : Value → Shared → Prop}

theorem swaps_name {elt : PySem.Expr} {gs : List Comprehension} {sc : Scope} {p px : Pos} {x : Str} {line : Nat} : ∃ b, swapsWith (.ListComp elt gs sc p) (some (.Name x px)) line env = pure b := ⟨_, rfl⟩

theorem AS.asgC {i : Nat} {m m0 : ME} {t : MT} {ifs : List ME} {rest : List MG} {sc : Scope} {caps : List (Nat × Nat)} {Q : AF N → Loc N → Sto N → Prop} {X : V N → Loc N → Sto N → Prop} (ok : O.Ok) (hg : c.hd.good = true) (hcap : capAll sc caps c.κ = true)
    (h : AE O c m0 ρ σ (fun w σ => ∃ vs, walkOf σ w = some vs ∧ itemsW O (compCx sc caps c) (fun v σ => X v ρ σ) t ifs (innerW O (compCx sc caps c) (fun v σ => X v ρ σ) m rest) (fun σ' => walkOf σ' w = some vs) vs [] (fun _ => none) σ (fun acc _ σ => Q .next (ρ.upd i (.lst acc)) σ)) (fun v σ => X v ρ σ)) :
    AS O c (.asg [.loc i] (.comp m (.mk t m0 ifs :: rest) sc caps)) ρ σ Q X := fun A env T Φ s e he hA => by
  cases he with
  | asg hts hm =>
    cases hts with
    | cons ht hst hn =>
      cases hn
      rename_i e0 p t0
      cases ht with
      | loc hi =>
      rename_i x px
      obtain ⟨elt, gs, p', rfl⟩ : ∃ elt gs p', e0 = .ListComp elt gs sc p' := by cases hm; exact ⟨_, _, _, rfl⟩
      obtain ⟨b, hb⟩ := swaps_name (env := env) (elt := elt) (gs := gs) (sc := sc) (p := p') (px := px) (x := x) (line := p.line)
      cases b with
      | false =>
        refine wpAny_Assign_stores (kEF (.refl _ _) (AE.comp (Q := fun v σ => Q .next (ρ.upd i v) σ) (X := fun v σ => X v ρ σ) ok hg hcap h A env T Φ s _ hm hA) fun T₁ σ₁ v a s₁ e₁ le₁ h₁ hv hq => ?_) hb rfl
        obtain ⟨mm, hmm, hall⟩ := h₁.fr.ns
        exact wpAny_assign_Name (wpAny_storeName_local (h₁.env.kindOf hi) hmm (fun h' hn hs => .nx (h₁.store hi hv hall hn hs) (e₁.trans ⟨TM.le_refl _, rfl, rfl⟩) hq) (notClass h₁.env))
      | true =>
        rw [exec_Assign_Name_used _ _ _ _ hb]
        refine wpAny_bind (wpAny_standAt (wpAny_bind ?_))
        show wpAny _ A (do let _ ← comprehension (.ListComp elt gs sc p') sc env (firstIterPos gs p') (newList []) (firstAsync gs) (firstIter gs env) (some (assign (.Name x px) env))) _ _ s
        refine wpAny_bind (wpAny_mono (comp_run (use := some (assign (.Name x px) env)) (R := fun _ s' => PostF O c A env Φ T s Q Flow.next s') ok hg hcap hm hA (X := fun v σ => X v ρ σ) (Qf := fun acc σ => Q .next (ρ.upd i (.lst acc)) σ) h
          fun T' σ' acc D xs n C mC s' e' hA' h₀ hD hDL hacc hq hmC hTC hΦC hCD hCL => ?_) (fun _ s' hq => wpAny_pure (wpAny_pure hq)) fun _ _ y => y.toX)
        have hO := hA'.adopt h₀ hD hDL fun z => z.2 _ _ rfl
        have hTD := (hA'.rep.frs D _ frAdd_self).1
        have le := TM.le_ins (t := (Trk.fro (listOf xs n) : Trk N)) hTD
        have hv : VRep O (T'.ins D (.fro (listOf xs n))) (.lst acc) (.ref D) := by unfold VRep; exact ⟨D, xs, n, rfl, TM.ins_self, VReps.mono le _ hacc⟩
        obtain ⟨mm, hmm, hall⟩ := hO.fr.ns
        refine wpAny_assign_Name (wpAny_storeName_local (hO.env.kindOf hi) hmm (fun h' hn hs => ⟨mC, hmC.sameBut hs hCL, fun h'' hs' => ?_⟩) (notClass hO.env))
        have hO' := (hO.store (tk := s'.toks + 1) hi hv hall hn hs).extFree (tk := s'.toks + 1) (h' := h'') (C := C) (by rw [TM.ins_ne hCD]; exact hTC) hΦC hCL hs'.extBut
        exact .nx hO' (e'.trans ⟨le, rfl, rfl⟩) hq
end
end Mine
namespace Mine
section
variable {N : Type} {O : Om} {c : Cx N} {ρ : Loc N} {σ : Sto N} {Q X : V N → Sto N → Prop}

theorem At.tk {A : Around} {env : Env} {T : TM N} {Φ : Addr → Option Obj} {s : Shared} (h : At O c A env T Φ ρ σ s) (t : Nat) : At O c A env T Φ ρ σ { s with toks := t } := ⟨h.rep, h.fr, h.env⟩
theorem int_inv {T : TM N} {i : Int} {a : Value} (h : VRep O T (.int i) a) : ∃ t, a = .int i t := by unfold VRep at h; exact h
theorem str_inv {T : TM N} {x : Str} {a : Value} (h : VRep O T (.str x) a) : ∃ t, a = .str x t := by unfold VRep at h; exact h
theorem rep_int {T : TM N} {i : Int} {t : Tok} : VRep O T (.int i) (.int i t) := by unfold VRep; exact ⟨t, rfl⟩
theorem rep_bool {T : TM N} {b : Bool} : VRep O T (.bool b) (.bool b) := by unfold VRep; rfl
theorem rep_str {T : TM N} {x : Str} {t : Tok} : VRep O T (.str x) (.str x t) := by unfold VRep; exact ⟨t, rfl⟩

theorem P2.add {a b : Int} (h : Q (.int (a + b)) σ) : P2 O c (binaryOp .Add) (.int a) (.int b) ρ σ Q X := fun A env T Φ s x y hA hx hy => by
  obtain ⟨t, rfl⟩ := int_inv hx; obtain ⟨u, rfl⟩ := int_inv hy
  exact PyProof.Rows.add_int (.mk' (hA.tk _) (.refl _ _) rep_int h)
theorem P2.sub {a b : Int} (h : Q (.int (a - b)) σ) : P2 O c (binaryOp .Sub) (.int a) (.int b) ρ σ Q X := fun A env T Φ s x y hA hx hy => by
  obtain ⟨t, rfl⟩ := int_inv hx; obtain ⟨u, rfl⟩ := int_inv hy
  exact PyProof.Rows.sub_int (.mk' (hA.tk _) (.refl _ _) rep_int h)
theorem P2.cmpI {op : CmpOp} {a b : Int} {r : Bool} (hop : (op = .Eq ∧ r = (a == b)) ∨ (op = .NotEq ∧ r = (a != b)) ∨ (op = .Lt ∧ r = decide (a < b)) ∨ (op = .LtE ∧ r = decide (a ≤ b)) ∨ (op = .Gt ∧ r = decide (a > b)) ∨ (op = .GtE ∧ r = decide (a ≥ b))) (h : Q (.bool r) σ) :
    P2 O c (compareOp op) (.int a) (.int b) ρ σ Q X := fun A env T Φ s x y hA hx hy => by
  obtain ⟨t, rfl⟩ := int_inv hx; obtain ⟨u, rfl⟩ := int_inv hy
  have q : Post O c A env Φ ρ T s Q (.bool r) s := .here hA rep_bool h
  rcases hop with ⟨rfl, rfl⟩ | ⟨rfl, rfl⟩ | ⟨rfl, rfl⟩ | ⟨rfl, rfl⟩ | ⟨rfl, rfl⟩ | ⟨rfl, rfl⟩
  · exact PySem.P.eq_int q
  · exact PySem.P.ne_int q
  · exact PySem.P.lt_int q
  · exact PySem.P.le_int q
  · exact PySem.P.gt_int q
  · exact PySem.P.ge_int q
theorem P1B.bool {b : Bool} {Q : Bool → Sto N → Prop} (h : Q b σ) : P1B O c truthy (.bool b) ρ σ Q X := fun A env T Φ s x hA hx => by
  unfold VRep at hx; subst hx
  exact wpAny_truthy_bool ⟨T, σ, TM.le_refl _, hA, rfl, rfl, h⟩
theorem P1B.none {Q : Bool → Sto N → Prop} (h : Q false σ) : P1B O c truthy .none ρ σ Q X := fun A env T Φ s x hA hx => by
  unfold VRep at hx; subst hx
  exact PyProof.Rows.truthy_none ⟨T, σ, TM.le_refl _, hA, rfl, rfl, h⟩
theorem P1B.lst {v : V N} {vs : List (V N)} {Q : Bool → Sto N → Prop} (hv : v.isLst = true) (hi : itemsOf σ v = some vs) (hl : vs.length < 1000000) (h : Q (!vs.isEmpty) σ) : P1B O c truthy v ρ σ Q X := fun A env T Φ s x hA hx => by
  have : ∃ l, x = .ref l := by
    cases v with
    | lst us => unfold VRep at hx; obtain ⟨a, _, _, e, _⟩ := hx; exact ⟨a, e⟩
    | ref n => unfold VRep at hx; obtain ⟨a, e, _⟩ := hx; exact ⟨a, e⟩
    | _ => cases hv
  obtain ⟨l, rfl⟩ := this
  obtain ⟨xs, h1, h2, _⟩ := items_at hA hx hi
  have hlen : xs.size = vs.length := by rw [← Array.length_toList, h1.length]
  refine wpAny_truthy_list (h2 hv) (by rw [hlen]; omega) ?_
  refine ⟨T, σ, TM.le_refl _, hA.tk _, rfl, rfl, ?_⟩
  have : xs.isEmpty = vs.isEmpty := by
    have h3 := h1.length
    cases vs with
    | nil => have := h1.nil_inv; rw [← Array.isEmpty_toList, this]; rfl
    | cons v r => obtain ⟨y, ys, e, _⟩ := h1.cons_inv; rw [← Array.isEmpty_toList, e]; rfl
  rw [this]; exact h

/-! identity -/
def V.nonRef : V N → Bool
  | .none => true
  | .bool _ => true
  | _ => false
def V.isRef : V N → Bool
  | .tup _ => true
  | .lst _ => true
  | .dct _ _ => true
  | .rng _ _ _ => true
  | .ref _ => true
  | .clo _ _ => true
  | .meth _ _ => true
  | .exc _ _ _ _ => true
  | _ => false
theorem ref_of {T : TM N} {v : V N} {a : Value} (h : VRep O T v a) (hr : v.isRef = true) : ∃ l, a = .ref l := by
  cases v <;> first | cases hr | skip
  all_goals unfold VRep at h
  · obtain ⟨a, _, _, rfl, _⟩ := h; exact ⟨a, rfl⟩
  · obtain ⟨a, _, _, rfl, _⟩ := h; exact ⟨a, rfl⟩
  · obtain ⟨a, _, _, rfl, _⟩ := h; exact ⟨a, rfl⟩
  · obtain ⟨a, _, _, _, rfl, _⟩ := h; exact ⟨a, rfl⟩
  · obtain ⟨a, rfl, _⟩ := h; exact ⟨a, rfl⟩
  · obtain ⟨a, _, _, _, _, _, _, rfl, _⟩ := h; exact ⟨a, rfl⟩
  · obtain ⟨a, _, _, rfl, _⟩ := h; exact ⟨a, rfl⟩
  · obtain ⟨a, rfl, _⟩ := h; exact ⟨a, rfl⟩
/-- `x is None` -/
theorem P2.isNone {v : V N} {op : CmpOp} {r : Bool} (hop : (op = .Is ∧ r = false) ∨ (op = .IsNot ∧ r = true)) (hv : v.isRef = true) (h : Q (.bool r) σ) : P2 O c (compareOp op) v .none ρ σ Q X := fun A env T Φ s x y hA hx hy => by
  obtain ⟨l, rfl⟩ := ref_of hx hv
  unfold VRep at hy; subst hy
  have q : Post O c A env Φ ρ T s Q (.bool r) s := .here hA rep_bool h
  rcases hop with ⟨rfl, rfl⟩ | ⟨rfl, rfl⟩
  · exact wpAny_is_other rfl (by simp) q
  · exact wpAny_isNot_other rfl (by simp) q
theorem P2.noneIs {op : CmpOp} {r : Bool} (hop : (op = .Is ∧ r = true) ∨ (op = .IsNot ∧ r = false)) (h : Q (.bool r) σ) : P2 O c (compareOp op) .none .none ρ σ Q X := fun A env T Φ s x y hA hx hy => by
  unfold VRep at hx hy; subst hx hy
  have q : Post O c A env Φ ρ T s Q (.bool r) s := .here hA rep_bool h
  rcases hop with ⟨rfl, rfl⟩ | ⟨rfl, rfl⟩
  · exact wpAny_is_self rfl q
  · exact wpAny_isNot_self rfl q
theorem P2.isRef {n m : N} {op : CmpOp} {r : Bool} {C D : Addr} {ns ns' : List Str} {vs vs' : List (V N)} (hn : σ n = some (.inst C ns vs)) (hm : σ m = some (.inst D ns' vs')) (hop : (op = .Is ∧ (r = true ↔ n = m)) ∨ (op = .IsNot ∧ (r = false ↔ n = m))) (h : Q (.bool r) σ) : P2 O c (compareOp op) (.ref n) (.ref m) ρ σ Q X := fun A env T Φ s x y hA hx hy => by
  obtain ⟨a, _, _, _, rfl, ha, _, hoa, _⟩ := inst_at hA hx hn
  obtain ⟨b, _, _, _, rfl, hb, _, hob, _⟩ := inst_at hA hy hm
  have q : Post O c A env Φ ρ T s Q (.bool r) s := .here hA rep_bool h
  by_cases e : n = m
  · subst e
    have : a = b := hA.rep.inj n a b ha hb
    subst this
    rcases hop with ⟨rfl, hr⟩ | ⟨rfl, hr⟩
    · rw [hr.mpr rfl] at q; exact wpAny_is_ref_self q
    · rw [hr.mpr rfl] at q; exact wpAny_isNot_ref_self q
  · have hab : a ≠ b := fun z => by rw [z, hb] at ha; cases ha; exact e rfl
    have same : ∀ {R : Bool → Shared → Prop} {E : Value → Shared → Prop}, R false s → wpAny (model O.prog O.w) A (isSame (.ref a) (.ref b)) R E s := fun hR => by
      unfold isSame
      dsimp only
      rw [if_neg (by simp [hab])]
      exact wpAny_bind (wpAny_load hoa (wpAny_bind (wpAny_load hob (wpAny_pure hR))))
    rcases hop with ⟨rfl, hr⟩ | ⟨rfl, hr⟩
    · have : r = false := by cases r with | false => rfl | true => exact absurd (hr.mp rfl) e
      subst this
      show wpAny _ A (do return Value.bool (← isSame (.ref a) (.ref b))) _ _ s
      exact wpAny_bind (same (wpAny_pure q))
    · have : r = true := by cases r with | true => rfl | false => exact absurd (hr.mp rfl) e
      subst this
      show wpAny _ A (do return Value.bool (!(← isSame (.ref a) (.ref b)))) _ _ s
      exact wpAny_bind (same (wpAny_pure q))
/-- constants of the text: strings by what made them -/
theorem P2.isStr {x y : Str} {t u : Tok} {op : CmpOp} {r : Bool} (ht : t ≠ 0) (hu : u ≠ 0) (hop : (op = .Is ∧ ((t = u ∧ r = true) ∨ (t ≠ u ∧ x ≠ y ∧ r = false))) ∨ (op = .IsNot ∧ ((t = u ∧ r = false) ∨ (t ≠ u ∧ x ≠ y ∧ r = true)))) (h : Q (.bool r) σ) :
    P2 O c (compareOp op) (.st (.str x t)) (.st (.str y u)) ρ σ Q X := fun A env T Φ s a b hA hx hy => by
  unfold VRep at hx hy; subst hx hy
  have q : Post O c A env Φ ρ T s Q (.bool r) s := .here hA rep_bool h
  have same : ∀ {R : Bool → Shared → Prop} {E : Value → Shared → Prop} (r' : Bool), ((t = u ∧ r' = true) ∨ (t ≠ u ∧ x ≠ y ∧ r' = false)) → R r' s → wpAny (model O.prog O.w) A (isSame (.str x t) (.str y u)) R E s := fun r' hr' hR => by
    unfold isSame isSame.created
    dsimp only
    rw [if_neg (by simp [ht, hu])]
    rcases hr' with ⟨rfl, rfl⟩ | ⟨h1, h2, rfl⟩
    · rw [if_pos (by simp)]; exact wpAny_pure hR
    · rw [if_neg (by simp [h1]), if_pos (by simp [h2])]; exact wpAny_pure hR
  rcases hop with ⟨rfl, hr⟩ | ⟨rfl, hr⟩
  · show wpAny _ A (do return Value.bool (← isSame (.str x t) (.str y u))) _ _ s
    exact wpAny_bind (same r hr (wpAny_pure q))
  · show wpAny _ A (do return Value.bool (!(← isSame (.str x t) (.str y u)))) _ _ s
    refine wpAny_bind (same (!r) ?_ (wpAny_pure (by rw [Bool.not_not]; exact q)))
    rcases hr with ⟨p1, rfl⟩ | ⟨p1, p2, rfl⟩
    · exact .inl ⟨p1, rfl⟩
    · exact .inr ⟨p1, p2, rfl⟩
end
end Mine
namespace Mine
section
variable {N : Type} {O : Om} {c : Cx N} {ρ : Loc N} {σ : Sto N} {Q X : V N → Sto N → Prop}

theorem P2.mod {a b : Int} (hb : b ≠ 0) (h : Q (.int (a.fmod b)) σ) : P2 O c (binaryOp .Mod) (.int a) (.int b) ρ σ Q X := fun A env T Φ s x y hA hx hy => by
  obtain ⟨t, rfl⟩ := int_inv hx; obtain ⟨u, rfl⟩ := int_inv hy
  exact PyProof.Rows.mod_int hb (.mk' (hA.tk _) (.refl _ _) rep_int h)
theorem P2.mul {a b : Int} (hm : IntMulOk a b) (h : Q (.int (a * b)) σ) : P2 O c (binaryOp .Mult) (.int a) (.int b) ρ σ Q X := fun A env T Φ s x y hA hx hy => by
  obtain ⟨t, rfl⟩ := int_inv hx; obtain ⟨u, rfl⟩ := int_inv hy
  exact PySem.P.mul_int (.mk' (hA.tk _) (.refl _ _) rep_int h) hm

/-- an item by its place-/
theorem PI.lst {v x : V N} {vs : List (V N)} {i : Nat} (hv : v.isLst = true) (hi : itemsOf σ v = some vs) (hx : vs[i]? = some x) (hl : i < 1000000) (h : Q x σ) : PI O c v (.int i) ρ σ Q X := fun A env T Φ s a b hA ha hb => by
  obtain ⟨t, rfl⟩ := int_inv hb
  obtain ⟨l, rfl⟩ := ref_of ha (by cases v <;> first | rfl | cases hv)
  obtain ⟨xs, h1, h2, _⟩ := items_at hA ha hi
  obtain ⟨y, hy, hr⟩ := h1.get hx
  have hL := h2 hv
  refine ⟨⟨"list", _, hL.typeIs, PySem.slot_list_getitem⟩, wpAny_getItem_list hL (by omega) (by omega) (by rw [Int.toNat_natCast, ← Array.getElem?_toList]; exact hy) (.here hA hr h)⟩
theorem lst_at {A : Around} {env : Env} {T : TM N} {Φ : Addr → Option Obj} {s : Shared} {v : V N} {a : Value} {vs : List (V N)} (hA : At O c A env T Φ ρ σ s) (ha : VRep O T v a) (hv : v.isLst = true) (hi : itemsOf σ v = some vs) :
    ∃ l xs n, a = .ref l ∧ s.heap.get? l = some (listOf xs n) ∧ VReps O T vs xs.toList := by
  cases v with
  | lst us =>
    cases hi
    unfold VRep at ha
    obtain ⟨a, xs, n, rfl, h1, h2⟩ := ha
    exact ⟨a, xs, n, rfl, hA.fro h1, h2⟩
  | ref m =>
    unfold VRep at ha
    obtain ⟨a, rfl, h1⟩ := ha
    obtain ⟨ob, hob, o, ho, hr⟩ := hA.rep.trk _ _ h1
    have hi : (match σ m with | some (.list vs) => some vs | _ => none) = some vs := hi
    rw [ho] at hi
    cases o with
    | list us => cases hi; obtain ⟨xs, n, rfl, h2⟩ := hr; exact ⟨a, xs, n, rfl, hob, h2⟩
    | _ => cases hi
  | _ => cases hv
theorem tup_at {A : Around} {env : Env} {T : TM N} {Φ : Addr → Option Obj} {s : Shared} {a : Value} {vs : List (V N)} (hA : At O c A env T Φ ρ σ s) (ha : VRep O T (.tup vs) a) : ∃ l xs n, a = .ref l ∧ s.heap.get? l = some (tupOf xs n) ∧ VReps O T vs xs.toList ∧ T l = some (.fro (tupOf xs n)) := by
  unfold VRep at ha
  obtain ⟨a, xs, n, rfl, h1, h2⟩ := ha
  exact ⟨a, xs, n, rfl, hA.fro h1, h2, h1⟩

theorem PI.tup {x : V N} {vs : List (V N)} {i : Nat} (hx : vs[i]? = some x) (hl : i < 1000000) (h : Q x σ) : PI O c (.tup vs) (.int i) ρ σ Q X := fun A env T Φ s a b hA ha hb => by
  obtain ⟨t, rfl⟩ := int_inv hb
  obtain ⟨l, xs, n, rfl, hL, h1, _⟩ := tup_at hA ha
  obtain ⟨y, hy, hr⟩ := h1.get hx
  rw [Array.getElem?_toList] at hy
  have hlt : i < xs.size := (Array.getElem?_eq_some_iff.mp hy).1
  refine ⟨⟨"tuple", _, ⟨_, hL, rfl⟩, PySem.F.slot_tuple_getitem⟩, getItem_tuple ⟨_, hL, rfl, n, rfl⟩ (by omega) (by omega) (j := i) ?_ hy (.here hA hr h)⟩
  unfold seqIndex?
  simp only [Int.toNat_natCast]
  split <;> simp_all
  omega

/-- two lists, two tuples, one behind the other -/
theorem P2.addL {v w : V N} {vs ws : List (V N)} (hv : v.isLst = true) (hi : itemsOf σ v = some vs) (hw : w.isLst = true) (hj : itemsOf σ w = some ws) (hl : vs.length + ws.length < 1000000) (h : Q (.lst (vs ++ ws)) σ) : P2 O c (binaryOp .Add) v w ρ σ Q X := fun A env T Φ s x y hA hx hy => by
  obtain ⟨l, xs, n, rfl, h1, h2⟩ := lst_at hA hx hv hi
  obtain ⟨b, ys, m, rfl, g1, g2⟩ := lst_at hA hy hw hj
  refine PySem.P.add_list h1 g1 ?_ (by rw [← Array.length_toList, ← Array.length_toList, h2.length, g2.length, sizeLine_eq]; omega)
  have hA' := hA.fro_new (o := listOf (xs ++ ys) 0) (s' := { s with heap := s.heap.push (listOf (xs ++ ys) 0) }) (fun b o e => Heap.get?_push_of_some _ e) (Nat.le_refl _) (Heap.get?_push_size _ rfl)
  have le := TM.le_ins (t := (Trk.fro (listOf (xs ++ ys) 0) : Trk N)) hA.rep.size_none
  exact .mk' hA' ⟨le, rfl, rfl⟩ (by unfold VRep; exact ⟨_, _, 0, rfl, TM.ins_self, by rw [Array.toList_append]; exact (h2.append g2).mono le⟩) h
theorem P2.addT {vs ws : List (V N)} (hl : vs.length + ws.length < 1000000) (h1 : vs ≠ []) (h2 : ws ≠ []) (h : Q (.tup (vs ++ ws)) σ) : P2 O c (binaryOp .Add) (.tup vs) (.tup ws) ρ σ Q X := fun A env T Φ s x y hA hx hy => by
  obtain ⟨l, xs, n, rfl, f1, f2, _⟩ := tup_at hA hx
  obtain ⟨b, ys, m, rfl, g1, g2, _⟩ := tup_at hA hy
  have ne : ∀ {us : List (V N)} {zs : Array Value}, us ≠ [] → VReps O T us zs.toList → ¬ zs.isEmpty = true := fun {us zs} hu hz he => by
    rw [← Array.isEmpty_toList, List.isEmpty_iff] at he
    rw [he] at hz
    have := hz.length
    simp at this
    exact hu (List.eq_nil_of_length_eq_zero this.symm)
  refine PySem.P.add_tuple f1 g1 (ne h1 f2) (ne h2 g2) ?_ (by rw [← Array.length_toList, ← Array.length_toList, f2.length, g2.length, sizeLine_eq]; omega)
  have hA' := hA.fro_new (o := tupOf (xs ++ ys) 0) (s' := { s with heap := s.heap.push (tupOf (xs ++ ys) 0) }) (fun b o e => Heap.get?_push_of_some _ e) (Nat.le_refl _) (Heap.get?_push_size _ rfl)
  have le := TM.le_ins (t := (Trk.fro (tupOf (xs ++ ys) 0) : Trk N)) hA.rep.size_none
  exact .mk' hA' ⟨le, rfl, rfl⟩ (by unfold VRep; exact ⟨_, _, 0, rfl, TM.ins_self, by rw [Array.toList_append]; exact (f2.append g2).mono le⟩) h

/-! calls of built-ins -/
theorem one_arg {T : TM N} {v : V N} {l : List Value} (h : VReps O T [v] l) : ∃ x, l = [x] ∧ VRep O T v x := by
  obtain ⟨x, xs, rfl, a, b⟩ := h.cons_inv
  rw [b.nil_inv]; exact ⟨x, rfl, a⟩
theorem two_arg {T : TM N} {v w : V N} {l : List Value} (h : VReps O T [v, w] l) : ∃ x y, l = [x, y] ∧ VRep O T v x ∧ VRep O T w y := by
  obtain ⟨x, xs, rfl, a, b⟩ := h.cons_inv
  obtain ⟨y, rfl, hb⟩ := one_arg b
  exact ⟨x, y, rfl, a, hb⟩
theorem three_arg {T : TM N} {u v w : V N} {l : List Value} (h : VReps O T [u, v, w] l) : ∃ x y z, l = [x, y, z] ∧ VRep O T u x ∧ VRep O T v y ∧ VRep O T w z := by
  obtain ⟨x, xs, rfl, a, b⟩ := h.cons_inv
  obtain ⟨y, z, rfl, hb, hc⟩ := two_arg b
  exact ⟨x, y, z, rfl, a, hb, hc⟩
theorem PC.len {v : V N} {vs : List (V N)} (hv : v.isLst = true) (hi : itemsOf σ v = some vs) (hl : vs.length < 1000000) (h : Q (.int vs.length) σ) : PC O c (.st (.builtin "len")) [v] [] [] ρ σ Q X := ⟨trivial, fun A env T Φ s fv avs kvs hA hf has hus => by
  unfold VRep at hf; subst hf
  obtain ⟨x, rfl, hx⟩ := one_arg has
  obtain ⟨l, xs, n, rfl, h1, h2⟩ := lst_at hA hx hv hi
  have hlen : xs.size = vs.length := by rw [← Array.length_toList, h2.length]
  refine call_len_list ⟨_, h1, rfl, n, rfl⟩ (by rw [hlen]; omega) (.mk' (hA.tk _) (.refl _ _) (by rw [hlen]; exact rep_int) h)⟩
theorem range_new {A : Around} {env : Env} {T : TM N} {Φ : Addr → Option Obj} {s : Shared} {lo hi st : Int} {t u w : Tok} {tk : Nat} (hA : At O c A env T Φ ρ σ s) (h : Q (.rng lo hi st) σ) : Post O c A env Φ ρ T s Q (.ref s.heap.objs.size) { s with heap := s.heap.push (rngOf lo hi st t u w), toks := tk } := by
  have hA' := hA.fro_new (o := rngOf lo hi st t u w) (s' := { s with heap := s.heap.push (rngOf lo hi st t u w), toks := tk }) (fun b o e => Heap.get?_push_of_some _ e) (Nat.le_refl _) (Heap.get?_push_size _ rfl)
  have le := TM.le_ins (t := (Trk.fro (rngOf lo hi st t u w) : Trk N)) hA.rep.size_none
  exact .mk' hA' ⟨le, rfl, rfl⟩ (by unfold VRep; exact ⟨_, t, u, w, rfl, TM.ins_self⟩) h
theorem PC.range1 {n : Int} (h : Q (.rng 0 n 1) σ) : PC O c (.st (.type "range")) [.int n] [] [] ρ σ Q X := ⟨trivial, fun A env T Φ s fv avs kvs hA hf has hus => by
  unfold VRep at hf; subst hf
  obtain ⟨x, rfl, hx⟩ := one_arg has
  obtain ⟨t, rfl⟩ := int_inv hx
  exact call_range_1 (range_new hA h)⟩
theorem PC.range3 {a b d : Int} (hd : d ≠ 0) (hs : Builtin.divisionGoesByPylong (b - a) d = false) (h : Q (.rng a b d) σ) : PC O c (.st (.type "range")) [.int a, .int b, .int d] [] [] ρ σ Q X := ⟨trivial, fun A env T Φ s fv avs kvs hA hf has hus => by
  unfold VRep at hf; subst hf
  obtain ⟨x, y, z, rfl, hx, hy, hz⟩ := three_arg has
  obtain ⟨t, rfl⟩ := int_inv hx; obtain ⟨u, rfl⟩ := int_inv hy; obtain ⟨w, rfl⟩ := int_inv hz
  exact call_range_3 hd (range_new hA h) (.inl hs)⟩
/-- appending to a list that has a name -/
theorem PM.append {n : N} {vs : List (V N)} {Q : V N → List (V N) → Sto N → Prop} (hσ : σ n = some (.list vs)) (h : Q (.st (.builtin "list.append")) [.ref n] σ) : PM O c "append" (.ref n) ρ σ Q X := fun A env T Φ s a pl hA ha => by
  obtain ⟨l, xs, k, rfl, h1, h2⟩ := lst_at hA ha rfl (show itemsOf σ (.ref n) = some vs by show (match σ n with | some (.list vs) => some vs | _ => none) = _; rw [hσ])
  exact getMethod_list_append h1 rfl rfl ⟨T, σ, _, _, .refl _ _, hA, by unfold VRep; rfl, .cons ha .nil, h⟩
theorem PC.append {n : N} {vs : List (V N)} {v : V N} (hσ : σ n = some (.list vs)) (hl : vs.length < 1000000) (h : Q .none (σ.set n (.list (vs ++ [v])))) : PC O c (.st (.builtin "list.append")) [.ref n, v] [] [] ρ σ Q X := ⟨trivial, fun A env T Φ s fv avs kvs hA hf has hus => by
  unfold VRep at hf; subst hf
  obtain ⟨x, y, rfl, hx, hy⟩ := two_arg has
  obtain ⟨l, xs, k, rfl, h1, h2⟩ := lst_at hA hx rfl (show itemsOf σ (.ref n) = some vs by show (match σ n with | some (.list vs) => some vs | _ => none) = _; rw [hσ])
  have hT : T l = some (.own n) := by unfold VRep at hx; obtain ⟨a, e, h⟩ := hx; cases e; exact h
  refine append_raw h1 (by rw [← Array.length_toList, h2.length, sizeLine_eq]; omega) fun h' n' ho hs => ?_
  exact .mk' (hA.upd (s' := { s with heap := h' }) (o' := .list (vs ++ [v])) hT hσ rfl rfl hs ho ⟨_, _, rfl, by rw [Array.toList_push]; exact h2.append (.cons hy .nil)⟩) (.refl _ _) (by unfold VRep; rfl) h⟩
end
end Mine
namespace Mine
section
variable {N : Type} {O : Om} {c : Cx N} {ρ : Loc N} {σ : Sto N} {Q X : V N → Sto N → Prop}

/-- keys of one kind-/
structure KeyV (O : Om) (N K : Type) [DecidableEq K] where
  knd : KeyKind O.prog O.w K
  emb : K → V N
  is : ∀ (T : TM N) k v, VRep O T (emb k) v ↔ knd.is k v = true
  hash : ∀ k v h, knd.is k v = true → (HashOk O.w.params v h ↔ h = knd.hash k)

def keyInt (O : Om) (N : Type) : KeyV O N Int where
  knd := intKind O.prog O.w
  emb := .int
  is := fun T k v => by
    constructor
    · intro h; obtain ⟨t, rfl⟩ := int_inv h; show Value.isInt k (.int k t) = true; simp [Value.isInt]
    · intro h; obtain ⟨t, rfl⟩ := Value.isInt_shape h; exact rep_int
  hash := fun k v h hk => by
    obtain ⟨t, rfl⟩ := Value.isInt_shape hk
    exact Iff.rfl
def keyStr (O : Om) (N : Type) : KeyV O N Str where
  knd := strKind O.prog O.w
  emb := .str
  is := fun T k v => by
    constructor
    · intro h; obtain ⟨t, rfl⟩ := str_inv h; show Value.isStrOf k (.str k t) = true; simp [Value.isStrOf]
    · intro h; obtain ⟨t, rfl⟩ := Value.isStrOf_shape h; exact rep_str
  hash := fun k v h hk => by
    obtain ⟨t, rfl⟩ := Value.isStrOf_shape hk
    exact Iff.rfl

variable {K : Type} [DecidableEq K] {kv : KeyV O N K}
theorem dict_pairs {T : TM N} : ∀ {ks : List K} {es : List DictEntry}, VReps O T (ks.map kv.emb) (es.map (·.key)) → Pairs kv.knd es (ks.zip (es.map (·.val)))
  | [], es, h => by
    have := h.nil_inv
    rw [List.map_eq_nil_iff] at this
    subst this; exact .nil
  | k :: ks, es, h => by
    obtain ⟨x, xs, e, a, b⟩ := h.cons_inv
    cases es with
    | nil => cases e
    | cons e0 es =>
      rw [List.map_cons] at e
      obtain ⟨rfl, rfl⟩ := List.cons.inj e
      exact .cons ((kv.is T k _).mp a) rfl (dict_pairs b)
theorem dict_keys {T : TM N} : ∀ {ks : List K} {es : List DictEntry}, VReps O T (ks.map kv.emb) (es.map (·.key)) → (∀ e ∈ es, HashOk O.w.params e.key e.hash) → ∀ e ∈ es, ∃ k, kv.knd.is k e.key = true ∧ e.hash = kv.knd.hash k
  | [], es, h, _ => by
    have := h.nil_inv
    rw [List.map_eq_nil_iff] at this
    subst this; intro e he; cases he
  | k :: ks, es, h, hh => by
    obtain ⟨x, xs, e, a, b⟩ := h.cons_inv
    cases es with
    | nil => cases e
    | cons e0 es =>
      rw [List.map_cons] at e
      obtain ⟨rfl, rfl⟩ := List.cons.inj e
      intro e' he'
      rcases List.mem_cons.mp he' with rfl | he'
      · have hk := (kv.is T k _).mp a
        exact ⟨k, hk, (kv.hash k _ _ hk).mp (hh _ List.mem_cons_self)⟩
      · exact dict_keys b (fun e he => hh e (List.mem_cons_of_mem _ he)) e' he'
theorem zip_fst {α β : Type} : ∀ {l : List α} {r : List β}, l.length = r.length → (l.zip r).map (·.1) = l
  | [], _, _ => by simp
  | a :: l, [], h => by cases h
  | a :: l, b :: r, h => by rw [List.zip_cons_cons, List.map_cons, zip_fst (by simpa using h)]
theorem zip_snd {α β : Type} : ∀ {l : List α} {r : List β}, l.length = r.length → (l.zip r).map (·.2) = r
  | [], [], _ => by simp
  | [], b :: r, h => by cases h
  | a :: l, [], h => by cases h
  | a :: l, b :: r, h => by rw [List.zip_cons_cons, List.map_cons, zip_snd (by simpa using h)]
theorem dict_of {T : TM N} {h : Heap} {d : Addr} {ks : List K} {es : List DictEntry} {n : Nat} (ho : h.get? d = some (dictOf es n)) (hk : VReps O T (ks.map kv.emb) (es.map (·.key))) (hh : ∀ e ∈ es, HashOk O.w.params e.key e.hash) (hn : ks.Nodup) : h.DictOf kv.knd d (ks.zip (es.map (·.val))) := by
  have hlen : ks.length = (es.map (·.val)).length := by have := hk.length; simpa using this.symm
  refine ⟨_, es.toArray, n, ho, ⟨rfl, rfl, rfl⟩, rfl, fun e he => ?_, ?_, by rw [zip_fst hlen]; exact hn⟩
  · exact dict_keys hk hh e (by simpa using he)
  · exact dict_pairs hk
theorem pairs_back {T : TM N} : ∀ {es : List DictEntry} {kvs : List (K × Value)}, Pairs kv.knd es kvs → VReps O T ((kvs.map (·.1)).map kv.emb) (es.map (·.key)) ∧ es.map (·.val) = kvs.map (·.2)
  | _, _, .nil => ⟨.nil, rfl⟩
  | _, _, .cons h1 h2 h3 => by
    obtain ⟨a, b⟩ := pairs_back (T := T) h3
    exact ⟨.cons ((kv.is T _ _).mpr h1) a, by rw [List.map_cons, List.map_cons, h2, b]⟩
theorem dict_back {T : TM N} {h : Heap} {d : Addr} {kvs : List (K × Value)} (x : h.DictOf kv.knd d kvs) : ∃ es n, h.get? d = some (dictOf es n) ∧ VReps O T ((kvs.map (·.1)).map kv.emb) (es.map (·.key)) ∧ es.map (·.val) = kvs.map (·.2) ∧ ∀ e ∈ es, HashOk O.w.params e.key e.hash := by
  obtain ⟨o, es, ep, ho, ⟨e1, e2, e3⟩, e4, e5, e6, e7⟩ := x
  obtain ⟨a, b⟩ := pairs_back (T := T) e6
  refine ⟨es.toList, ep, ?_, a, b, fun e he => ?_⟩
  · rw [ho]
    obtain ⟨c, dd, dt, sl⟩ := o
    simp only at e1 e2 e3 e4
    subst e1 e2 e3 e4
    rfl
  · obtain ⟨k, hk, hh⟩ := e5 e (by simpa using he)
    exact (kv.hash k _ _ hk).mpr hh

/-- the value at a key; what a store makes of a dict-/
def dget (ks : List K) (vs : List (V N)) (k : K) : Option (V N) := match ks, vs with
  | j :: ks, v :: vs => if j = k then some v else dget ks vs k
  | _, _ => none
def dputK (ks : List K) (k : K) : List K := if k ∈ ks then ks else ks ++ [k]
def dputV : List K → List (V N) → K → V N → List (V N)
  | j :: ks, v :: vs, k, u => if j = k then u :: vs else v :: dputV ks vs k u
  | _, _, _, u => [u]
theorem dget_at {T : TM N} {k : K} : ∀ {ks : List K} {vs : List (V N)} {xs : List Value}, VReps O T vs xs → (∀ v, dget ks vs k = some v → ∃ x, valueAt (ks.zip xs) k = some x ∧ VRep O T v x) ∧ (dget ks vs k = none → valueAt (ks.zip xs) k = none)
  | [], vs, xs, h => ⟨fun v e => by simp [dget] at e, fun _ => by simp [valueAt]⟩
  | j :: ks, [], xs, h => by rw [h.nil_inv]; exact ⟨fun v e => by simp [dget] at e, fun _ => by simp [valueAt]⟩
  | j :: ks, v :: vs, xs, h => by
    obtain ⟨x, xs, rfl, a, b⟩ := h.cons_inv
    obtain ⟨i1, i2⟩ := dget_at (k := k) (ks := ks) b
    rw [List.zip_cons_cons]
    unfold dget valueAt
    rw [List.find?_cons]
    by_cases q : j = k
    · subst q
      simp only [if_true, decide_true, Option.map_some]
      exact ⟨fun w e => by cases e; exact ⟨x, rfl, a⟩, fun e => by cases e⟩
    · simp only [q, if_false, decide_false]
      exact ⟨i1, i2⟩
end
end Mine
namespace Mine
section
variable {N : Type} {O : Om} {c : Cx N} {ρ : Loc N} {σ : Sto N} {Q X : V N → Sto N → Prop} {K : Type} [DecidableEq K] {kv : KeyV O N K}

theorem dputV_rep {T : TM N} {k : K} {u : V N} {x : Value} (hu : VRep O T u x) : ∀ {ks : List K} {vs : List (V N)} {xs : List Value}, ks.Nodup → ks.length = xs.length → VReps O T vs xs →
    (stored (ks.zip xs) k x).map (·.1) = dputK ks k ∧ VReps O T (dputV ks vs k u) ((stored (ks.zip xs) k x).map (·.2)) ∧ (k ∉ ks → ((ks.zip xs).map fun kv => if kv.1 = k then (kv.1, x) else kv) = ks.zip xs)
  | [], vs, xs, hn, hl, hv => by
    cases xs with
    | nil => cases vs with
      | nil => exact ⟨by simp [stored, dputK], by simp only [stored, dputV]; exact .cons hu .nil, fun _ => rfl⟩
      | cons v vs => obtain ⟨_, _, e, _⟩ := hv.cons_inv; cases e
    | cons => cases hl
  | j :: ks, vs, xs, hn, hl, hv => by
    cases xs with
    | nil => cases hl
    | cons y ys =>
    cases vs with
    | nil => have := hv.nil_inv; cases this
    | cons v vs =>
    obtain ⟨y', ys', e, ha, hb⟩ := hv.cons_inv
    cases e
    rw [List.nodup_cons] at hn
    obtain ⟨i1, i2, i3⟩ := dputV_rep (k := k) hu hn.2 (by simpa using hl) hb
    rw [List.zip_cons_cons]
    by_cases q : j = k
    · subst q
      have e3 := i3 hn.1
      refine ⟨?_, ?_, fun h => absurd List.mem_cons_self h⟩
      · unfold stored dputK
        simp only [List.any_cons, decide_true, Bool.true_or, if_true, List.map_cons]
        rw [e3, zip_fst (by simpa using hl)]
        simp
      · unfold stored dputV
        simp only [List.any_cons, decide_true, Bool.true_or, if_true, List.map_cons]
        rw [e3, zip_snd (by simpa using hl)]
        exact .cons hu hb
    · have hmem : (ks.zip ys).any (fun kv => decide (kv.1 = k)) = decide (k ∈ ks) := by
        rw [Bool.eq_iff_iff, List.any_eq_true, decide_eq_true_eq]
        constructor
        · rintro ⟨p, hp, h⟩
          have := List.mem_map.mpr ⟨p, hp, (rfl : p.1 = p.1)⟩
          rw [zip_fst (by simpa using hl)] at this
          simp at h; rw [h] at this; exact this
        · intro h
          rw [← zip_fst (l := ks) (r := ys) (by simpa using hl)] at h
          obtain ⟨p, hp, e⟩ := List.mem_map.mp h
          exact ⟨p, hp, by simpa using e⟩
      refine ⟨?_, ?_, fun h => ?_⟩
      · unfold stored dputK at i1 ⊢
        simp only [List.any_cons, q, decide_false, Bool.false_or, hmem, decide_eq_true_eq] at i1 ⊢
        have hk : k ∈ j :: ks ↔ k ∈ ks := by simp [List.mem_cons, Ne.symm q]
        by_cases hm : k ∈ ks
        · simp only [hm, if_true, hk.mpr hm, List.map_cons, q, if_false] at i1 ⊢
          rw [i1]
        · simp only [hm, if_false, (not_congr hk).mpr hm, List.map_cons, List.cons_append] at i1 ⊢
          rw [i1]
      · unfold stored at i2 ⊢
        unfold dputV
        simp only [List.any_cons, q, decide_false, Bool.false_or, if_false] at i2 ⊢
        split
        · rename_i hh
          rw [if_pos hh] at i2
          simp only [List.map_cons, q, if_false]
          exact .cons ha i2
        · rename_i hh
          rw [if_neg hh] at i2
          simp only [List.cons_append, List.map_cons]
          exact .cons ha i2
      · rw [List.mem_cons, not_or] at h
        rw [List.map_cons, i3 h.2]
        simp [q]

theorem dict_at {A : Around} {env : Env} {T : TM N} {Φ : Addr → Option Obj} {s : Shared} {n : N} {a : Value} {ks vs : List (V N)} (hA : At O c A env T Φ ρ σ s) (ha : VRep O T (.ref n) a) (hσ : σ n = some (.dict ks vs)) :
    ∃ d es k, a = .ref d ∧ T d = some (.own n) ∧ s.heap.get? d = some (dictOf es k) ∧ VReps O T ks (es.map (·.key)) ∧ VReps O T vs (es.map (·.val)) ∧ ∀ e ∈ es, HashOk O.w.params e.key e.hash := by
  unfold VRep at ha
  obtain ⟨d, rfl, hd⟩ := ha
  obtain ⟨ob, hob, o, ho, hr⟩ := hA.rep.trk _ _ hd
  rw [hσ] at ho; cases ho
  obtain ⟨es, k, rfl, h1, h2, h3⟩ := hr
  exact ⟨d, es, k, rfl, hd, hob, h1, h2, h3⟩
theorem not_sys {A : Around} {env : Env} {T : TM N} {Φ : Addr → Option Obj} {s : Shared} {n : N} {d : Addr} (ok : O.Ok) (hA : At O c A env T Φ ρ σ s) (hd : T d = some (.own n)) : (d == sysModules) = false := by
  obtain ⟨o, ho⟩ := ok.sys
  have := hA.rep.base _ _ ho
  rw [beq_eq_false_iff_ne]
  rintro rfl
  rw [hd] at this; cases this

theorem PI.dict {n : N} {ks : List K} {vs : List (V N)} {k : K} {v : V N} (kv : KeyV O N K) (hσ : σ n = some (.dict (ks.map kv.emb) vs)) (hn : ks.Nodup) (hg : dget ks vs k = some v) (h : Q v σ) : PI O c (.ref n) (kv.emb k) ρ σ Q X := fun A env T Φ s a b hA ha hb => by
  obtain ⟨d, es, m, rfl, hd, ho, h1, h2, h3⟩ := dict_at hA ha hσ
  have D := dict_of ho h1 h3 hn
  obtain ⟨x, hx, hr⟩ := (dget_at (k := k) (ks := ks) h2).1 v hg
  exact ⟨⟨"dict", _, ⟨_, ho, rfl⟩, PySem.slot_dict_getitem⟩, wpAny_getItem_of ((kv.is T k b).mp hb) D.mapOf hx (.mk' (hA.tk _) (.refl _ _) hr h)⟩
theorem P3U.dict {n : N} {ks : List K} {vs : List (V N)} {k : K} {u : V N} {Q : Sto N → Prop} (kv : KeyV O N K) (hσ : σ n = some (.dict (ks.map kv.emb) vs)) (hn : ks.Nodup) (hl : ks.length < 1000000) (h : Q (σ.set n (.dict ((dputK ks k).map kv.emb) (dputV ks vs k u)))) : P3U O c setItem (.ref n) (kv.emb k) u ρ σ Q X := fun A env T Φ s a b d hA ha hb hu => by
  obtain ⟨d0, es, m, rfl, hd, ho, h1, h2, h3⟩ := dict_at hA ha hσ
  have D := dict_of ho h1 h3 hn
  have hlen : ks.length = (es.map (·.val)).length := by have := h1.length; simpa using this.symm
  refine wpAny_setItem_pairs ((kv.is T k b).mp hb) D (fun h' D' hs => ?_) (by rw [List.length_zip, ← hlen, Nat.min_self, sizeLine_eq]; omega)
  obtain ⟨e1, e2, _⟩ := dputV_rep (k := k) hu hn hlen h2
  obtain ⟨es', m', ho', hk', hv', hh'⟩ := dict_back (T := T) D'
  rw [e1] at hk'
  rw [← hv'] at e2
  exact ⟨T, _, TM.le_refl _, hA.upd (s' := { s with heap := h', toks := s.toks + 1 }) (o' := .dict ((dputK ks k).map kv.emb) (dputV ks vs k u)) hd hσ rfl rfl hs ho' ⟨es', m', rfl, hk', e2, hh'⟩, rfl, rfl, h⟩
theorem P2.inDict {n : N} {ks : List K} {vs : List (V N)} {k : K} {op : CmpOp} {r : Bool} (ok : O.Ok) (kv : KeyV O N K) (hσ : σ n = some (.dict (ks.map kv.emb) vs)) (hn : ks.Nodup) (hop : (op = .In ∧ r = (dget ks vs k).isSome)) (h : Q (.bool r) σ) : P2 O c (compareOp op) (kv.emb k) (.ref n) ρ σ Q X := fun A env T Φ s b a hA hb ha => by
  obtain ⟨d, es, m, rfl, hd, ho, h1, h2, h3⟩ := dict_at hA ha hσ
  have D := dict_of ho h1 h3 hn
  obtain ⟨i1, i2⟩ := dget_at (k := k) (ks := ks) h2
  have hr : (valueAt (ks.zip (es.map (·.val))) k).isSome = (dget ks vs k).isSome := by
    cases q : dget ks vs k with
    | none => rw [i2 q]; rfl
    | some v => obtain ⟨x, hx, _⟩ := i1 v q; rw [hx]; rfl
  obtain ⟨rfl, rfl⟩ := hop
  refine wpAny_in_of ((kv.is T k b).mp hb) (not_sys ok hA hd) D.mapOf ?_
  rw [hr]
  exact .mk' (hA.tk _) (.refl _ _) rep_bool h
end
end Mine
namespace Mine
section
variable {N : Type} {O : Om} {c : Cx N} {ρ : Loc N} {σ : Sto N} {Q X : V N → Sto N → Prop}

def isIntV (k : Int) : Value → Bool
  | .int a _ => a == k
  | _ => false
theorem ints_all {T : TM N} {A : Around} {s : Shared} {k : Int} {u : Tok} : ∀ {is : List Int} {xs : List Value}, VReps O T (is.map .int) xs → (∀ y ∈ xs, SeqAt.EqAt A s y (.int k u) (isIntV k y)) ∧ xs.any (isIntV k) = is.contains k
  | [], xs, h => by rw [show xs = [] from VReps.nil_inv h]; exact ⟨fun y hy => (by cases hy), rfl⟩
  | i :: is, xs, h => by
    obtain ⟨x, ys, rfl, a, b⟩ := h.cons_inv
    obtain ⟨t, rfl⟩ := int_inv a
    obtain ⟨h1, h2⟩ := ints_all (A := A) (s := s) (k := k) (u := u) b
    refine ⟨fun y hy => ?_, ?_⟩
    · rcases List.mem_cons.mp hy with rfl | hy
      · exact SeqAt.EqAt.int_int i t k u
      · exact h1 y hy
    · rw [List.any_cons, h2, List.contains_cons]
      have e0 : isIntV k (.int i t) = (k == i) := by
        show (i == k) = (k == i)
        by_cases q : i = k
        · rw [q]
        · rw [beq_eq_false_iff_ne.mpr q, beq_eq_false_iff_ne.mpr (Ne.symm q)]
      rw [e0]
/-- `in` a list of whole numbers-/
theorem P2.inInts {v : V N} {is : List Int} {k : Int} {op : CmpOp} {r : Bool} (hv : v.isLst = true) (hi : itemsOf σ v = some (is.map .int)) (hop : (op = .In ∧ r = is.contains k) ∨ (op = .NotIn ∧ r = !is.contains k)) (h : Q (.bool r) σ) : P2 O c (compareOp op) (.int k) v ρ σ Q X := fun A env T Φ s b a hA hb ha => by
  obtain ⟨u, rfl⟩ := int_inv hb
  obtain ⟨l, xs, n, rfl, h1, h2⟩ := lst_at hA ha hv hi
  obtain ⟨e1, e2⟩ := ints_all (A := A.in1) (s := s) (k := k) (u := u) h2
  have e2' : xs.any (isIntV k) = is.contains k := by rw [← Array.any_toList]; exact e2
  have he : ∀ y, y ∈ xs → SeqAt.EqAt A.in1 s y (.int k u) (isIntV k y) := fun y hy => e1 y (by simpa using hy)
  have q : Post O c A env Φ ρ T s Q (.bool r) s := .here hA rep_bool h
  rcases hop with ⟨rfl, rfl⟩ | ⟨rfl, rfl⟩
  · exact SeqAt.in_listAt (isIntV k) ⟨_, h1, rfl, n, rfl⟩ he (by rw [e2']; exact q)
  · exact SeqAt.notIn_listAt (isIntV k) ⟨_, h1, rfl, n, rfl⟩ he (by rw [e2']; exact q)

/-! equality of values, one level of pairs after another-/
def deqs (f : V N → V N → Option Bool) : List (V N) → List (V N) → Option Bool
  | v :: vs, w :: ws => (f v w).bind fun r => (deqs f vs ws).map fun q => r && q
  | _, _ => some true
def deq : Nat → V N → V N → Option Bool
  | 0, _, _ => none
  | n + 1, v, w => match v with
    | .int a => (match w with | .int b => some (a == b) | _ => none)
    | .str a => (match w with | .str b => some (a == b) | _ => none)
    | .bool a => (match w with | .bool b => some (a == b) | _ => none)
    | .none => (match w with | .none => some true | _ => none)
    | .tup vs => (match w with | .tup ws => (deqs (deq n) vs ws).map fun r => r && vs.length == ws.length | _ => none)
    | _ => none
theorem deqs_same {T : TM N} {f : V N → V N → Option Bool} (hf : ∀ {v w : V N} {x : Value} {r : Bool}, VRep O T v x → VRep O T w x → f v w = some r → r = true) : ∀ {vs ws : List (V N)} {xs : List Value} {r : Bool}, VReps O T vs xs → VReps O T ws xs → deqs f vs ws = some r → r = true
  | [], ws, xs, r, h, g, e => by simp [deqs] at e; exact e
  | v :: vs, [], xs, r, h, g, e => by simp [deqs] at e; exact e
  | v :: vs, w :: ws, xs, r, h, g, e => by
    obtain ⟨x, ys, rfl, a, b⟩ := h.cons_inv
    obtain ⟨x', ys', e', a', b'⟩ := g.cons_inv
    cases e'
    unfold deqs at e
    obtain ⟨q, hq, hr⟩ := Option.bind_eq_some_iff.mp e
    obtain ⟨p, hp, hr⟩ := Option.map_eq_some_iff.mp hr
    rw [← hr, hf a a' hq, deqs_same hf b b' hp]; rfl
theorem deq_same {T : TM N} : ∀ (n : Nat) {v w : V N} {x : Value} {r : Bool}, VRep O T v x → VRep O T w x → deq n v w = some r → r = true
  | 0, _, _, _, _, _, _, e => by cases e
  | n + 1, v, w, x, r, h, g, e => by
    have ih := @deq_same T n
    unfold deq at e
    split at e
    · split at e
      · obtain ⟨t, rfl⟩ := int_inv h; obtain ⟨u, e'⟩ := int_inv g; cases e'; simp at e; exact e
      · cases e
    · split at e
      · obtain ⟨t, rfl⟩ := str_inv h; obtain ⟨u, e'⟩ := str_inv g; cases e'; simp at e; exact e
      · cases e
    · split at e
      · unfold VRep at h g; subst h; cases g; simp at e; exact e
      · cases e
    · split at e
      · cases e; rfl
      · cases e
    · split at e
      · unfold VRep at h g
        obtain ⟨a, xs, k, rfl, h1, h2⟩ := h
        obtain ⟨b, ys, m, e', g1, g2⟩ := g
        cases e'
        rw [h1] at g1
        cases g1
        obtain ⟨q, hq, hr⟩ := Option.map_eq_some_iff.mp e
        have hq' := deqs_same (fun a b c => ih a b c) h2 g2 hq
        rw [← hr, hq', ← h2.length, ← g2.length]; simp
      · cases e
    · cases e
theorem deqs_at {f : V N → V N → Option Bool} {P : V N → V N → Value → Value → Bool → Prop} {T : TM N} (hf : ∀ {v w : V N} {x y : Value} {r : Bool}, VRep O T v x → VRep O T w y → f v w = some r → P v w x y r) :
    ∀ {vs ws : List (V N)} {xs ys : List Value} {q : Bool}, VReps O T vs xs → VReps O T ws ys → deqs f vs ws = some q → ∃ e : Nat → Bool, (∀ j (h1 : j < xs.length) (h2 : j < ys.length), ∃ v w, P v w xs[j] ys[j] (e j)) ∧ q = (List.range (min xs.length ys.length)).all e
  | [], ws, xs, ys, q, h, g, e => by
    rw [h.nil_inv]
    simp [deqs] at e
    exact ⟨fun _ => true, (fun j h1 => by simp at h1), by simp [e]⟩
  | v :: vs, [], xs, ys, q, h, g, e => by
    rw [g.nil_inv]
    simp [deqs] at e
    exact ⟨fun _ => true, (fun j _ h2 => by simp at h2), by simp [e]⟩
  | v :: vs, w :: ws, xs, ys, q, h, g, e => by
    obtain ⟨x, xs, rfl, a, b⟩ := h.cons_inv
    obtain ⟨y, ys, rfl, a', b'⟩ := g.cons_inv
    unfold deqs at e
    obtain ⟨r, hr, hq⟩ := Option.bind_eq_some_iff.mp e
    obtain ⟨p, hp, hq⟩ := Option.map_eq_some_iff.mp hq
    obtain ⟨e', i1, i2⟩ := deqs_at hf b b' hp
    refine ⟨fun j => match j with | 0 => r | j + 1 => e' j, fun j h1 h2 => ?_, ?_⟩
    · cases j with
      | zero => exact ⟨v, w, hf a a' hr⟩
      | succ j => exact i1 j (by simpa using h1) (by simpa using h2)
    · rw [← hq, i2, List.length_cons, List.length_cons, Nat.succ_min_succ, List.range_succ_eq_map, List.all_cons, List.all_map]
      rfl
theorem deq_at {c : Cx N} {A₀ : Around} {env : Env} {T : TM N} {Φ : Addr → Option Obj} {s : Shared} (hA : At O c A₀ env T Φ ρ σ s) : ∀ (n : Nat) {A : Around} {v w : V N} {x y : Value} {r : Bool}, A.units + n < cLine → VRep O T v x → VRep O T w y → deq n v w = some r → SeqAt.EqAt A s x y r
  | 0, _, _, _, _, _, _, _, _, _, e => by cases e
  | n + 1, A, v, w, x, y, r, hu, h, g, e => by
    have ih := @deq_at c A₀ env T Φ s hA n
    have same := @deq_same N O T (n + 1) v w
    have e0 := e
    unfold deq at e
    split at e
    · split at e
      · obtain ⟨t, rfl⟩ := int_inv h; obtain ⟨u, rfl⟩ := int_inv g; cases e; exact SeqAt.EqAt.int_int _ _ _ _
      · cases e
    · split at e
      · obtain ⟨t, rfl⟩ := str_inv h; obtain ⟨u, rfl⟩ := str_inv g; cases e; exact SeqAt.EqAt.str_str _ _ _ _
      · cases e
    · split at e
      · unfold VRep at h g; subst h g; cases e; exact SeqAt.EqAt.bool_bool _ _
      · cases e
    · split at e
      · unfold VRep at h g; subst h g; cases e; exact SeqAt.EqAt.same _
      · cases e
    · split at e
      · rename_i vs ws
        obtain ⟨l, xs, k, rfl, h1, h2, h3⟩ := tup_at hA h
        obtain ⟨b, ys, m, rfl, g1, g2, g3⟩ := tup_at hA g
        by_cases hlb : l = b
        · subst hlb
          have : r = true := same h g e0
          subst this
          exact SeqAt.EqAt.same _
        · obtain ⟨q, hq, hr⟩ := Option.map_eq_some_iff.mp e
          obtain ⟨ee, i1, i2⟩ := deqs_at (P := fun _ _ x y r => SeqAt.EqAt A.in1 s x y r) (fun a b c => ih (A := A.in1) (by show A.units + 1 + n < cLine; omega) a b c) h2 g2 hq
          have key := SeqAt.RcAt.tuples (A := A) (s := s) (e := ee) ⟨_, h1, rfl, k, rfl⟩ ⟨_, g1, rfl, m, rfl⟩ (by omega) fun j p1 p2 => by
            obtain ⟨_, _, z⟩ := i1 j (by simpa using p1) (by simpa using p2)
            simpa using z
          refine SeqAt.EqAt.of_refs hlb ?_
          have : r = ((List.range (min xs.size ys.size)).all ee && xs.size == ys.size) := by
            rw [← hr, i2, ← h2.length, ← g2.length, Array.length_toList, Array.length_toList]
          rw [this]
          exact key
      · cases e
    · cases e
end
end Mine
namespace Mine
section
variable {N : Type} {O : Om} {c : Cx N} {ρ : Loc N} {σ : Sto N} {Q X : V N → Sto N → Prop}

/-- lists, compared-/
def leq (vs ws : List (V N)) : Option Bool := if vs.length = ws.length then deqs (deq 20) vs ws else some false
theorem P2.eqL {v w : V N} {vs ws : List (V N)} {q r : Bool} {op : CmpOp} (hD : 0 < c.D) (hv : v.isLst = true) (hi : itemsOf σ v = some vs) (hw : w.isLst = true) (hj : itemsOf σ w = some ws) (he : leq vs ws = some q) (hop : (op = .Eq ∧ r = q) ∨ (op = .NotEq ∧ r = !q)) (h : Q (.bool r) σ) :
    P2 O c (compareOp op) v w ρ σ Q X := fun A env T Φ s x y hA hx hy => by
  obtain ⟨l, xs, k, rfl, h1, h2⟩ := lst_at hA hx hv hi
  obtain ⟨b, ys, m, rfl, g1, g2⟩ := lst_at hA hy hw hj
  have hu : A.units + 40 < cLine := by have := hA.env.units; omega
  have Qr : Post O c A env Φ ρ T s Q (.bool r) s := .here hA rep_bool h
  have lx : xs.size = vs.length := by rw [← Array.length_toList, h2.length]
  have ly : ys.size = ws.length := by rw [← Array.length_toList, g2.length]
  have L1 : s.heap.IsList l xs := ⟨_, h1, rfl, k, rfl⟩
  have L2 : s.heap.IsList b ys := ⟨_, g1, rfl, m, rfl⟩
  unfold leq at he
  split at he
  · rename_i hl
    have hsz : xs.size = ys.size := by rw [lx, ly, hl]
    obtain ⟨ee, i1, i2⟩ := deqs_at (P := fun _ _ x y r => SeqAt.EqAt A.in1 s x y r) (fun a b c => deq_at hA 20 (A := A.in1) (by show A.units + 1 + 20 < cLine; omega) a b c) h2 g2 he
    have hall : q = (List.range xs.size).all ee := by rw [i2, Array.length_toList, Array.length_toList, ← hsz, Nat.min_self]
    have hee : ∀ j (p1 : j < xs.size) (p2 : j < ys.size), SeqAt.EqAt A.in1 s xs[j] ys[j] (ee j) := fun j p1 p2 => by
      obtain ⟨_, _, z⟩ := i1 j (by simpa using p1) (by simpa using p2)
      simpa using z
    rcases hop with ⟨rfl, rfl⟩ | ⟨rfl, rfl⟩
    · exact SeqAt.RcAt.lists L1 L2 hsz (by omega) hee O.prog O.w _ _ (by rw [← hall]; exact Qr)
    · exact SeqAt.RcNeAt.lists L1 L2 hsz (by omega) hee O.prog O.w _ _ (by rw [← hall]; exact Qr)
  · rename_i hl
    cases he
    have hsz : (xs.size != ys.size) = true := by rw [lx, ly]; simpa using hl
    rcases hop with ⟨rfl, rfl⟩ | ⟨rfl, rfl⟩
    · exact SeqAt.RcAt.lists_lengths L1 L2 hsz (by omega) O.prog O.w _ _ Qr
    · exact SeqAt.RcNeAt.lists_lengths L1 L2 hsz (by omega) O.prog O.w _ _ Qr

theorem P2.addS {a b : Str} (hl : a.length + b.length ≤ sizeLine) (h : Q (.str (a ++ b)) σ) : P2 O c (binaryOp .Add) (.str a) (.str b) ρ σ Q X := fun A env T Φ s x y hA hx hy => by
  obtain ⟨t, rfl⟩ := str_inv hx; obtain ⟨u, rfl⟩ := str_inv hy
  exact PySem.SB.add (fun t' k => .mk' (hA.tk _) (.refl _ _) rep_str h) hl
end
end Mine
namespace Mine
section
variable {N : Type} {O : Om} {c : Cx N} {ρ : Loc N} {σ : Sto N} {Q X : V N → Sto N → Prop}

theorem seq_at {A : Around} {env : Env} {T : TM N} {Φ : Addr → Option Obj} {s : Shared} {v : V N} {a : Value} {vs : List (V N)} (hA : At O c A env T Φ ρ σ s) (ha : VRep O T v a) (hv : v.isLst = true ∨ v.isTup = true) (hi : itemsOf σ v = some vs) :
    ∃ l o xs n t, a = .ref l ∧ s.heap.get? l = some o ∧ (t = "list" ∨ t = "tuple") ∧ o.cls = .type t ∧ o.data = .seq xs n ∧ VReps O T vs xs.toList := by
  rcases hv with hv | hv
  · obtain ⟨l, xs, n, rfl, h1, h2⟩ := lst_at hA ha hv hi
    exact ⟨l, _, xs, n, _, rfl, h1, .inl rfl, rfl, rfl, h2⟩
  · cases v with
    | tup us =>
      cases hi
      obtain ⟨l, xs, n, rfl, h1, h2, _⟩ := tup_at hA ha
      exact ⟨l, _, xs, n, _, rfl, h1, .inr rfl, rfl, rfl, h2⟩
    | _ => cases hv
/-- list(x): a copy that stays-/
theorem PC.list {v : V N} {vs : List (V N)} (hv : v.isLst = true ∨ v.isTup = true) (hi : itemsOf σ v = some vs) (hl : vs.length < 1000000) (h : Q (.lst vs) σ) : PC O c (.st (.type "list")) [v] [] [] ρ σ Q X := ⟨trivial, fun A env T Φ s fv avs kvs hA hf has hus => by
  unfold VRep at hf; subst hf
  obtain ⟨x, rfl, hx⟩ := one_arg has
  obtain ⟨l, o, xs, n, ty, rfl, h1, h2, h2c, h3, h4⟩ := seq_at hA hx hv hi
  refine call_list_seq (hsz := by rw [← Array.length_toList, h4.length, sizeLine_eq]; omega) l h2 h1 h2c h3 fun h' c' hk hD => ?_
  have hA' := hA.fro_new (o := listOf xs c') (s' := { s with heap := h' }) hk (Nat.le_refl _) hD
  have le := TM.le_ins (t := (Trk.fro (listOf xs c') : Trk N)) hA.rep.size_none
  exact .mk' hA' ⟨le, rfl, rfl⟩ (by unfold VRep; exact ⟨_, xs, c', rfl, TM.ins_self, h4.mono le⟩) h⟩
/-- .. and one that has a name-/
theorem PC.listN (n : N) {v : V N} {vs : List (V N)} (hv : v.isLst = true ∨ v.isTup = true) (hi : itemsOf σ v = some vs) (hl : vs.length < 1000000) (hσ : σ n = none) (h : Q (.ref n) (σ.set n (.list vs))) : PC O c (.st (.type "list")) [v] [] [] ρ σ Q X := ⟨trivial, fun A env T Φ s fv avs kvs hA hf has hus => by
  unfold VRep at hf; subst hf
  obtain ⟨x, rfl, hx⟩ := one_arg has
  obtain ⟨l, o, xs, k, ty, rfl, h1, h2, h2c, h3, h4⟩ := seq_at hA hx hv hi
  refine call_list_seq (hsz := by rw [← Array.length_toList, h4.length, sizeLine_eq]; omega) l h2 h1 h2c h3 fun h' c' hk hD => ?_
  have le := TM.le_ins (t := (Trk.own n : Trk N)) hA.rep.size_none
  have hA' := hA.own_new (n := n) (o := .list vs) (s' := { s with heap := h' }) hk (Nat.le_refl _) hσ rfl hD ⟨xs, c', rfl, h4.mono le⟩
  exact .mk' hA' ⟨le, rfl, rfl⟩ (by unfold VRep; exact ⟨_, rfl, TM.ins_self⟩) h⟩
end
end Mine
namespace Mine
section
variable {N : Type} {O : Om} {c : Cx N} {ρ : Loc N} {σ : Sto N} {X : V N → Loc N → Sto N → Prop}

def ATgs (O : Om) (c : Cx N) (X : V N → Loc N → Sto N → Prop) : List MT → List (V N) → Loc N → Sto N → (Loc N → Sto N → Prop) → Prop
  | [], [], ρ, σ, Q => Q ρ σ
  | t :: ts, v :: vs, ρ, σ, Q => ATg O c t v ρ σ (fun ρ σ => ATgs O c X ts vs ρ σ Q) X
  | _, _, _, _, _ => False
theorem each_plain {t : PySem.Expr} {ts : List PySem.Expr} {env : Env} (h : ∀ s p, t ≠ .Starred s p) : assignEach (t :: ts) env = (false, assign t env) :: assignEach ts env := by
  cases t <;> first | rfl | exact absurd rfl (h _ _)
theorem each_len {fc : FC} {env : Env} : ∀ {es : List PySem.Expr} {ts : List MT}, CTs O fc es ts → (assignEach es env).length = ts.length ∧ (assignEach es env).findIdx? (·.1) = none
  | [], _, .nil => ⟨rfl, rfl⟩
  | e :: es, t :: ts, .cons a b d => by
    obtain ⟨h1, h2⟩ := each_len (env := env) d
    rw [each_plain b]
    exact ⟨by rw [List.length_cons, List.length_cons, h1], by rw [List.findIdx?_cons, h2]; rfl⟩
theorem in_order {A : Around} {env : Env} {T : TM N} {Φ : Addr → Option Obj} {s : Shared} {Q : Loc N → Sto N → Prop} (es : List PySem.Expr) : ∀ (ts : List MT) (vs : List (V N)) (xs : List Value) (ρ : Loc N) (σ : Sto N) (T₁ : TM N) (s₁ : Shared), CTs O c.fc es ts → Ext T s T₁ s₁ → At O c A env T₁ Φ ρ σ s₁ → VReps O T₁ vs xs → ATgs O c X ts vs ρ σ Q →
    wpAny (model O.prog O.w) A (assignInOrder ((assignEach es env).map (·.2)) xs) (fun _ => PostF O c A env Φ T s (fun _ => Q) Flow.next) (PostX O c A env Φ T s X) s₁ := by
  induction es with
  | nil =>
    intro ts vs xs ρ σ T₁ s₁ hts e hA hv h
    cases hts
    cases vs with
    | nil => rw [hv.nil_inv]; exact wpAny_pure (.mk' (v := .next) hA e rfl h)
    | cons => exact h.elim
  | cons e0 es ih =>
    intro ts vs xs ρ σ T₁ s₁ hts e hA hv h
    cases hts with
    | cons a b d =>
    cases vs with
    | nil => exact h.elim
    | cons v vs =>
      obtain ⟨x, xs, rfl, hx, hxs⟩ := hv.cons_inv
      rw [each_plain b]
      show wpAny _ _ (do holding xs (assign e0 env x); assignInOrder ((assignEach es env).map (·.2)) xs) _ _ s₁
      refine wpAny_bind (wpAny_holding (wpAny_mono (h A env T₁ Φ s₁ e0 x a hA hx) (fun _ s₂ h₂ => ?_) fun _ _ y => y.ext e))
      obtain ⟨T₂, ρ₂, σ₂, af, le, hA₂, hg, ho, _, hq⟩ := h₂
      exact ih _ _ _ _ _ _ _ d (e.trans ⟨le, hg, ho⟩) hA₂ (hxs.mono le) hq
theorem ATg.tup {ts : List MT} {vs : List (V N)} {Q : Loc N → Sto N → Prop} (hh : c.hd = .no) (hl : ts.length = vs.length) (h : ATgs O c X ts vs ρ σ Q) : ATg O c (.tup ts) (.tup vs) ρ σ Q X := fun A env T Φ s e a he hA hv => by
  cases he with
  | tup hts =>
    obtain ⟨l, xs, n, rfl, h1, h2, _⟩ := tup_at hA hv
    obtain ⟨e1, e2⟩ := each_len (env := env) hts
    have hd := hA.env.hdok
    rw [hh] at hd
    have hd : A.handled = none := hd
    refine wpAny_assign_Tuple hd ⟨_, h1, rfl, n, rfl⟩ (by rw [e1, hl, ← Array.length_toList, h2.length]) e2 fun h' hx => ?_
    have hA' := hA.extFree (h' := h') (tk := s.toks) hA.rep.size_none hA.rep.size_none_fr (fun q => Nat.lt_irrefl _ (q ▸ hA.fr.lt)) hx
    exact in_order _ _ _ _ _ _ _ _ hts (.refl _ _) hA' h2 h
end
end Mine
namespace Mine
section
variable {N : Type} {O : Om} {c : Cx N} {ρ : Loc N} {σ : Sto N} {X : V N → Sto N → Prop}

/-- an instance without ways of its own to be asked for its truth -/
theorem P1B.inst {n : N} {C : Addr} {ns : List Str} {vs : List (V N)} {Q : Bool → Sto N → Prop} (ok : O.Ok) (hσ : σ n = some (.inst C ns vs)) (hb : findIn O.K (.ref C) "__bool__" = some Option.none) (hl : findIn O.K (.ref C) "__len__" = some Option.none) (h : Q true σ) : P1B O c truthy (.ref n) ρ σ Q X := fun A env T Φ s x hA hx => by
  obtain ⟨a, d, es, k, rfl, hx', hd, h1, h2, h3, h4, I⟩ := inst_at hA hx hσ
  have Xk := hA.K ok
  unfold truthy
  refine wpAny_bind (m := callSpecial? (.ref a) (Str.ofString "__bool__")) (wpAny_bind (wpAny_bind (I.type.here ((looks_findIn Xk hb).here (wpAny_pure ?_)))))
  refine wpAny_bind (wpAny_bind (I.type.here ((looks_findIn Xk hl).here ?_)))
  exact wpAny_pure ⟨T, σ, TM.le_refl _, hA, rfl, rfl, h⟩
end
end Mine
namespace Mine
section
variable {N : Type} {O : Om} {c : Cx N} {ρ : Loc N} {σ : Sto N}
/-- a comprehension's list, kept in a cell -/
theorem AS.asgCc {i : Nat} {m m0 : ME} {t : MT} {ifs : List ME} {rest : List MG} {sc : Scope} {caps : List (Nat × Nat)} {Q : AF N → Loc N → Sto N → Prop} {X : V N → Loc N → Sto N → Prop} (ok : O.Ok)
    (h : AE O c (.comp m (.mk t m0 ifs :: rest) sc caps) ρ σ (fun v σ₁ => ATg O c (.cel i) v ρ σ₁ (fun ρ₂ σ₂ => Q .next ρ₂ σ₂) X) (fun v σ₁ => X v ρ σ₁)) :
    AS O c (.asg [.cel i] (.comp m (.mk t m0 ifs :: rest) sc caps)) ρ σ Q X := fun A env T Φ s e he hA => by
  cases he with
  | asg hts hm =>
    cases hts with
    | cons ht hst hn =>
      cases hn
      rename_i e0 p t0
      have ht0 := ht
      cases ht with
      | cel hi =>
      rename_i x px
      obtain ⟨elt, gs, p', rfl⟩ : ∃ elt gs p', e0 = .ListComp elt gs sc p' := by cases hm; exact ⟨_, _, _, rfl⟩
      have hb : swapsWith (.ListComp elt gs sc p') (some (.Name x px)) p.line env = pure false := by
        have hk : (env.kindOf x == some NameKind.local) = false := by rw [hA.env.kindOf hi]; rfl
        show pure (env.blockKind == .function && env.kindOf x == some .local && px.line == p'.line && _) = _
        rw [hk, Bool.and_false, Bool.false_and, Bool.false_and]
      refine wpAny_Assign_stores (kEF (.refl _ _) (h A env T Φ s _ hm hA) fun T₁ σ₁ v a s₁ e₁ le₁ h₁ hv hq => ?_) hb rfl
      exact wpAny_mono (hq A env T₁ Φ s₁ _ a ht0 h₁ hv) (fun _ s₂ h₂ => (h₂.nexts fun _ _ x => x).ext e₁) fun _ _ x => x.ext e₁
end
end Mine
namespace Mine
section
variable {N : Type} {O : Om} {c : Cx N} {ρ : Loc N} {σ : Sto N} {Q X : V N → Sto N → Prop}

inductive PartV : V N → Option Int → Prop
  | none : PartV .none Option.none
  | int (i : Int) : PartV (.int i) (some i)
theorem part_of {T : TM N} {v : V N} {a : Value} {k : Option Int} (h : VRep O T v a) (p : PartV v k) : IsPart a k := by
  cases p with
  | none => unfold VRep at h; subst h; exact .none
  | int i => obtain ⟨t, rfl⟩ := int_inv h; exact .int i t
theorem PS.gen {v l u : V N} {vs ws : List (V N)} {lo hi : Option Int} (hv : v.isLst = true) (hi' : itemsOf σ v = some vs) (hl : vs.length < 1000000) (pl : PartV l lo) (pu : PartV u hi)
    (hw : ∀ T (xs : Array Value), VReps O T vs xs.toList → VReps O T ws (slicePick xs lo hi Option.none).toList) (h : Q (.lst ws) σ) : PS O c v l u ρ σ Q X := fun A env T Φ s a l' u' b hA ha hl' hu' hb => by
  obtain ⟨x, xs, n, rfl, h1, h2⟩ := lst_at hA ha hv hi'
  refine ⟨⟨"list", _, ⟨_, h1, rfl⟩, PySem.slot_list_getitem⟩, wpAny_getItem_list_slice (lo := lo) (hi := hi) (st := Option.none) ⟨_, h1, rfl, n, rfl⟩ ⟨_, hb, rfl, rfl⟩ (part_of hl' pl) (part_of hu' pu) .none (by simp) ?_ (by rw [← Array.length_toList, h2.length, sizeLine_eq]; omega)⟩
  have hA' := hA.fro_new (o := listOf (slicePick xs lo hi Option.none) 0) (s' := { s with heap := s.heap.push (listOf (slicePick xs lo hi Option.none) 0) }) (fun b o e => Heap.get?_push_of_some _ e) (Nat.le_refl _) (Heap.get?_push_size _ rfl)
  have le := TM.le_ins (t := (Trk.fro (listOf (slicePick xs lo hi Option.none) 0) : Trk N)) hA.rep.size_none
  exact .mk' hA' ⟨le, rfl, rfl⟩ (by unfold VRep; exact ⟨_, _, 0, rfl, TM.ins_self, (hw T xs h2).mono le⟩) h
theorem PS.upto {v : V N} {vs : List (V N)} {k : Nat} (hv : v.isLst = true) (hi : itemsOf σ v = some vs) (hl : vs.length < 1000000) (h : Q (.lst (vs.take k)) σ) : PS O c v .none (.int k) ρ σ Q X :=
  .gen hv hi hl .none (.int k) (fun T xs hx => by rw [slicePick_upto']; exact hx.take k) h
theorem PS.from {v : V N} {vs : List (V N)} {k : Nat} (hv : v.isLst = true) (hi : itemsOf σ v = some vs) (hl : vs.length < 1000000) (h : Q (.lst (vs.drop k)) σ) : PS O c v (.int k) .none ρ σ Q X :=
  .gen hv hi hl (.int k) .none (fun T xs hx => by rw [slicePick_from']; exact hx.drop k) h
end

section
variable {prog : Program} {w : World} {A : Around} {E : Value → Shared → Prop} {s : Shared}
theorem del_all {l sl : Addr} {xs : Array Value} {n : Nat} {Q : Unit → Shared → Prop} (hl : s.heap.get? l = some (listOf xs n)) (hs : s.heap.get? sl = some (sliceObj .none .none)) (hsz : xs.size ≤ sizeLine)
    (hQ : ∀ h' n', h'.get? l = some (listOf #[] n') → Heap.SameBut l s.heap h' → Q () { s with heap := h' }) : wpAny (model prog w) A (delItem (.ref l) (.ref sl)) Q E s := by
  have hL : s.TypeIs (.ref l) "list" := ⟨_, hl, rfl⟩
  have hTs : s.TypeIs (.ref sl) "slice" := ⟨_, hs, rfl⟩
  refine wpAny_delItem_slot hL (by decide) PySem.F.slot_list_delitem (wpAny_call_entry PySem.F.slot_list_delitem hL PySem.F.entry_list_delitem ?_ (PySem.F.args_list_delitem_2 _ _))
  show wpAny _ _ (Builtin.List.listSubscript? (.ref sl) >>= _) _ _ s
  refine wpAny_bind ?_
  unfold Builtin.List.listSubscript?
  refine wpAny_bind (wpAny_specialOf hTs slice_no_index ?_)
  simp only [Option.isNone_none, if_true]
  refine wpAny_pure ?_
  show wpAny _ _ (typeOf (.ref sl) >>= _) _ _ s
  refine wpAny_bind (wpAny_typeOf hTs ?_)
  rw [if_neg (by decide)]
  rw [listSliceParts_eq]
  refine wpAny_bind (wpAny_bind (wpAny_field hs rfl (x := .none) rfl (wpAny_bind (wpAny_listPart .none ?_))))
  rw [if_neg (show ¬ ((rawPart none == rawInt 0) = true) from Bool.false_ne_true)]
  refine wpAny_bind (wpAny_field hs rfl (x := .none) rfl (wpAny_bind (wpAny_listPart .none ?_)))
  refine wpAny_bind (wpAny_field hs rfl (x := .none) rfl (wpAny_bind (wpAny_listPart .none (wpAny_pure ?_))))
  refine wpAny_bind (m := Builtin.List.listItems (.ref l)) ?_
  unfold Builtin.List.listItems
  refine wpAny_bind (wpAny_seqItems hl rfl (wpAny_pure ?_))
  refine wpAny_bind (wpAny_of_eq (sliceIndices_raw none none none xs.size (by simp)) ?_)
  refine wpAny_bind (wpAny_rule (wpAny_bind ?_))
  have key : ∀ ys : List Value, ((ys.zipIdx.filterMap fun p => if (if (1 : Int) > 0 then decide ((0 : Int) ≤ (p.2 : Int)) && decide ((p.2 : Int) < (ys.length : Int)) && ((p.2 : Int) - 0) % 1 == 0 else decide ((ys.length : Int) < (p.2 : Int)) && decide ((p.2 : Int) ≤ 0) && ((0 : Int) - (p.2 : Int)) % (-1) == 0) = true then none else some p.1)) = [] := fun ys => by
    rw [List.filterMap_eq_nil_iff]
    intro p hp
    have hlt : p.2 < ys.length := by
      obtain ⟨x, k⟩ := p
      have := List.mem_zipIdx hp
      omega
    rw [if_pos]
    rw [if_pos (by decide)]
    simp
    omega
  have key' : (fun ys : Array Value => (ys.toList.zipIdx.filterMap fun (x, k) => if (if (1 : Int) > 0 then decide ((0 : Int) ≤ (k : Int)) && decide ((k : Int) < (xs.size : Int)) && ((k : Int) - 0) % 1 == 0 else decide ((xs.size : Int) < (k : Int)) && decide ((k : Int) ≤ 0) && ((0 : Int) - (k : Int)) % (-1) == 0) = true then none else some x).toArray) xs = #[] := by
    have := key xs.toList
    rw [Array.length_toList] at this
    show (xs.toList.zipIdx.filterMap _).toArray = #[]
    rw [this]
  show wpAny _ _ (updateSeq l (fun ys : Array Value => (ys.toList.zipIdx.filterMap fun (x, k) => if (if (1 : Int) > 0 then decide ((0 : Int) ≤ (k : Int)) && decide ((k : Int) < (xs.size : Int)) && ((k : Int) - 0) % 1 == 0 else decide ((xs.size : Int) < (k : Int)) && decide ((k : Int) ≤ 0) && ((0 : Int) - (k : Int)) % (-1) == 0) = true then none else some x).toArray)) _ _ s
  have fin : ∀ F : Array Value → Array Value, F xs = #[] → wpAny (model prog w) A.in1 (updateSeq l F) (fun _ s₁ => Q () s₁) E s := fun F hF => by
    have hself := Heap.get?_update_self (Obj.mapSeq F) hl rfl
    have e2 : ∃ n', Obj.mapSeq F (listOf xs n) = listOf (F xs) n' := ⟨_, rfl⟩
    obtain ⟨n', e2⟩ := e2
    rw [e2, hF] at hself
    exact wpAny_updateSeq hl rfl (hQ _ n' hself (Heap.SameBut.update ..)) hsz (by rw [hF]; exact Nat.zero_le _)
  exact wpAny_mono (fin _ key') (fun _ s₁ h₁ => wpAny_bind (wpAny_letGo (wpAny_pure ⟨.none, rfl, h₁⟩))) fun _ _ x => x
end
end Mine
namespace Mine
section
variable {N : Type} {O : Om} {c : Cx N} {ρ : Loc N} {σ : Sto N}
/-- `del x[:]` -/
theorem AS.delAll {m : ME} {Q : AF N → Loc N → Sto N → Prop} {X : V N → Loc N → Sto N → Prop} (h : AE O c m ρ σ (fun v σ₁ => ∃ n vs, v = .ref n ∧ σ₁ n = some (.list vs) ∧ vs.length < 1000000 ∧ Q .next ρ (σ₁.set n (.list []))) (fun v σ => X v ρ σ)) :
    AS O c (.del (.sub m (.sli none none))) ρ σ Q X := fun A env T Φ s e he hA => by
  cases he with
  | del ht =>
    cases ht with
    | sub hm hs =>
      cases hs with
      | sli h1 h2 =>
        cases h1
        cases h2
        refine wpAny_Delete (wpAny_deleteEach_cons (wpAny_delete_Subscript (kEF (.refl _ _) (h A env T Φ s _ hm hA) fun T₁ σ₁ v a s₁ e₁ le₁ h₁ hv hq => ?_)))
        obtain ⟨n, vs, rfl, hσ, hl, hq⟩ := hq
        obtain ⟨l, xs, k, rfl, g1, g2⟩ := lst_at h₁ hv rfl (show itemsOf σ₁ (.ref n) = some vs by show (match σ₁ n with | some (.list vs) => some vs | _ => none) = _; rw [hσ])
        have hT : T₁ l = some (.own n) := by unfold VRep at hv; obtain ⟨a, e, h⟩ := hv; cases e; exact h
        refine wpAny_Slice (wpAny_pure (wpAny_pure (wpAny_pure ?_)))
        have h₂ : At O c A env T₁ Φ ρ σ₁ { s₁ with heap := s₁.heap.push (sliceObj .none .none) } := h₁.keeps fun b o e => Heap.get?_push_of_some _ e
        refine del_all (s := { s₁ with heap := s₁.heap.push (sliceObj .none .none) }) (Heap.get?_push_of_some _ g1) (Heap.get?_push_size _ rfl) (by rw [← Array.length_toList, g2.length, sizeLine_eq]; omega) fun h' n' ho hs => ?_
        refine wpAny_deleteEach_nil ?_
        exact .nx (h₂.upd (s' := { s₁ with heap := h' }) (o' := .list []) hT hσ rfl rfl hs ho ⟨#[], n', rfl, .nil⟩) (e₁.trans ⟨TM.le_refl _, rfl, rfl⟩) hq
end
end Mine
namespace Mine
section
variable {N : Type} {O : Om} {c : Cx N} {ρ : Loc N} {σ : Sto N} {Q X : V N → Sto N → Prop}
theorem ints_of {T : TM N} : ∀ {is : List Int} {xs : List Value}, VReps O T (is.map .int) xs → IntsAre xs is
  | [], xs, h => by rw [show xs = [] from VReps.nil_inv h]; exact .nil
  | i :: is, xs, h => by
    obtain ⟨x, ys, rfl, a, b⟩ := h.cons_inv
    obtain ⟨t, rfl⟩ := int_inv a
    exact .cons i t (ints_of b)
theorem ints_to {T : TM N} {xs : List Value} {is : List Int} (h : IntsAre xs is) : VReps O T (is.map .int) xs := by
  induction h with
  | nil => exact .nil
  | cons n t _ ih => exact .cons rep_int ih
/-- sorted(x) of whole numbers -/
theorem PC.sorted {v : V N} {is : List Int} (hv : v.isLst = true) (hi : itemsOf σ v = some (is.map .int)) (hl : is.length < 64) (h : ∀ js : List Int, js.Perm is → js.Pairwise (· ≤ ·) → Q (.lst (js.map .int)) σ) : PC O c (.st (.builtin "sorted")) [v] [] [] ρ σ Q X := ⟨trivial, fun A env T Φ s fv avs kvs hA hf has hus => by
  unfold VRep at hf; subst hf
  obtain ⟨x, rfl, hx⟩ := one_arg has
  obtain ⟨l, xs, n, rfl, h1, h2⟩ := lst_at hA hx hv hi
  have hlen : xs.toList.length = is.length := by rw [h2.length, List.length_map]
  refine sorted_ints (vs := xs.toList) ⟨_, h1, rfl, n, rfl⟩ (ints_of h2) (by rw [hlen]; exact hl) fun out js hj hp hs => ?_
  obtain ⟨e, he⟩ := sortedAll_at s.heap xs.toList out
  have hA' := hA.fro_new (o := listOf out e) (s' := { s with heap := sortedAll s.heap xs.toList out }) (fun b o e => sortedAll_old e) (Nat.le_succ _) he
  have le := TM.le_ins (t := (Trk.fro (listOf out e) : Trk N)) (hA.rep.above_none (Nat.le_succ _))
  exact .mk' hA' ⟨le, rfl, rfl⟩ (by unfold VRep; exact ⟨_, out, e, rfl, TM.ins_self, ints_to hj⟩) (h js hp hs)⟩
end
end Mine
namespace Mine
section
variable {N : Type} {O : Om} {c : Cx N} {ρ : Loc N} {σ : Sto N} {Q X : V N → Sto N → Prop}
theorem PC.str {i : Int} (hi : i.natAbs.log2 < 1920) (h : Q (.str (toString i)) σ) : PC O c (.st (.type "str")) [.int i] [] [] ρ σ Q X := ⟨trivial, fun A env T Φ s fv avs kvs hA hf has hus => by
  unfold VRep at hf; subst hf
  obtain ⟨x, rfl, hx⟩ := one_arg has
  obtain ⟨t, rfl⟩ := int_inv hx
  exact PySem.P.str_of_int hi (.mk' (hA.tk _) (.refl _ _) rep_str h)⟩
/-- tuple(t) of a tuple is that tuple -/
theorem PC.tuple {vs : List (V N)} (h : Q (.tup vs) σ) : PC O c (.st (.type "tuple")) [.tup vs] [] [] ρ σ Q X := ⟨trivial, fun A env T Φ s fv avs kvs hA hf has hus => by
  unfold VRep at hf; subst hf
  obtain ⟨x, rfl, hx⟩ := one_arg has
  obtain ⟨l, xs, n, rfl, h1, h2, _⟩ := tup_at hA hx
  exact call_tuple_same ⟨_, h1, rfl, n, rfl⟩ (.here hA hx h)⟩
end
end Mine
namespace Mine
section
variable {N : Type} {O : Om} {c : Cx N} {ρ : Loc N} {σ : Sto N} {Q X : V N → Sto N → Prop}
theorem made_int {A : Around} {env : Env} {T : TM N} {Φ : Addr → Option Obj} {s : Shared} {i : Int} (hA : At O c A env T Φ ρ σ s) (h : Q (.int i) σ) : (Made.int i).post (Post O c A env Φ ρ T s Q) s := by
  show Post O c A env Φ ρ T s Q (.int i s.toks) { s with toks := s.toks + 1 }
  exact .mk' (hA.tk _) (.refl _ _) rep_int h
theorem P2.fdiv {a b : Int} (hb : b ≠ 0) (hp : Builtin.divisionGoesByPylong a b = false) (h : Q (.int (a.fdiv b)) σ) : P2 O c (binaryOp .FloorDiv) (.int a) (.int b) ρ σ Q X := fun A env T Φ s x y hA hx hy => by
  obtain ⟨t, rfl⟩ := int_inv hx; obtain ⟨u, rfl⟩ := int_inv hy
  exact PySem.AutoIntOps.floordiv_1 (by simpa using hb) (by rw [hp]; decide) (made_int hA h)
theorem P2.pow2 {n : Nat} (hn : n < 60) (h : Q (.int (2 ^ n)) σ) : P2 O c (binaryOp .Pow) (.int 2) (.int n) ρ σ Q X := fun A env T Φ s x y hA hx hy => by
  obtain ⟨t, rfl⟩ := int_inv hx; obtain ⟨u, rfl⟩ := int_inv hy
  by_cases h0 : n = 0
  · subst h0
    exact PySem.AutoIntOps.pow_0 (by simp) (by simp) (made_int hA (by simpa using h))
  · refine PySem.AutoIntOps.pow_4 (by omega) (by simpa using h0) (by decide) (by decide) ?_ (made_int hA (by simpa using h))
    have : ∀ n : Nat, n < 60 → Builtin.Int.intTooBig (((Builtin.Int.intBits 2 : Nat) : Int) * n) = false := by decide +kernel
    rw [this n hn]; decide
end
end Mine
namespace Mine
section
variable {N : Type} {O : Om} {c : Cx N} {ρ : Loc N} {σ : Sto N} {Q X : V N → Sto N → Prop}
theorem not_sys' {A : Around} {env : Env} {T : TM N} {Φ : Addr → Option Obj} {s : Shared} (ok : O.Ok) (hA : At O c A env T Φ ρ σ s) : s.heap.objs.size ≠ sysModules := by
  obtain ⟨o, ho⟩ := ok.sys
  intro e
  have := Heap.lt_size (hA.base ho)
  rw [e] at this
  exact Nat.lt_irrefl _ this
/-- `{}`: a dict that stays empty, and one that has a name -/
theorem AE.dct0 (ok : O.Ok) (h : Q (.dct [] []) σ) : AE O c (.dct [] []) ρ σ Q X := fun A env T Φ s e he hA => by
  obtain ⟨p, rfl⟩ : ∃ p, e = .Dict [] [] p := by
    cases he with
    | dct hk hv hl hs => cases hk; cases hv; exact ⟨_, rfl⟩
  rw [eval_Dict_empty]
  refine wpAny_bind (wpAny_standAt ?_)
  unfold newDict
  refine wpAny_newObj_type ?_ (by size_fits)
  have hA' := hA.fro_new (o := dictOf [] 0) (s' := { s with heap := s.heap.push (dictOf [] 0) }) (fun b o e => Heap.get?_push_of_some _ e) (Nat.le_refl _) (Heap.get?_push_size _ rfl)
  have le := TM.le_ins (t := (Trk.fro (dictOf [] 0) : Trk N)) hA.rep.size_none
  exact .mk' hA' ⟨le, rfl, rfl⟩ (by unfold VRep; exact ⟨_, [], 0, rfl, not_sys' ok hA, TM.ins_self, .nil, .nil, fun e he => by cases he⟩) h
theorem AE.dct0N (n : N) (hσ : σ n = Option.none) (h : Q (.ref n) (σ.set n (.dict [] []))) : AE O c (.dct [] []) ρ σ Q X := fun A env T Φ s e he hA => by
  obtain ⟨p, rfl⟩ : ∃ p, e = .Dict [] [] p := by
    cases he with
    | dct hk hv hl hs => cases hk; cases hv; exact ⟨_, rfl⟩
  rw [eval_Dict_empty]
  refine wpAny_bind (wpAny_standAt ?_)
  unfold newDict
  refine wpAny_newObj_type ?_ (by size_fits)
  have hA' := hA.own_new (n := n) (o := .dict [] []) (ob := dictOf [] 0) (s' := { s with heap := s.heap.push (dictOf [] 0) }) (fun b o e => Heap.get?_push_of_some _ e) (Nat.le_refl _) hσ rfl (Heap.get?_push_size _ rfl) ⟨[], 0, rfl, .nil, .nil, fun e he => by cases he⟩
  have le := TM.le_ins (t := (Trk.own n : Trk N)) hA.rep.size_none
  exact .mk' hA' ⟨le, rfl, rfl⟩ (by unfold VRep; exact ⟨_, rfl, TM.ins_self⟩) h
end
end Mine
namespace Mine
section
variable {N : Type} {O : Om} {c : Cx N} {ρ : Loc N} {σ : Sto N} {Q X : V N → Sto N → Prop} {K : Type} [DecidableEq K] {kv : KeyV O N K}
theorem P2.notInDict {n : N} {ks : List K} {vs : List (V N)} {k : K} (ok : O.Ok) (kv : KeyV O N K) (hσ : σ n = some (.dict (ks.map kv.emb) vs)) (hn : ks.Nodup) (h : Q (.bool (dget ks vs k).isNone) σ) : P2 O c (compareOp .NotIn) (kv.emb k) (.ref n) ρ σ Q X := fun A env T Φ s b a hA hb ha => by
  obtain ⟨d, es, m, rfl, hd, ho, h1, h2, h3⟩ := dict_at hA ha hσ
  have D := dict_of ho h1 h3 hn
  obtain ⟨i1, i2⟩ := dget_at (k := k) (ks := ks) h2
  have hr : (!(valueAt (ks.zip (es.map (·.val))) k).isSome) = (dget ks vs k).isNone := by
    cases q : dget ks vs k with
    | none => rw [i2 q]; rfl
    | some v => obtain ⟨x, hx, _⟩ := i1 v q; rw [hx]; rfl
  refine wpAny_notIn_of ((kv.is T k b).mp hb) (not_sys ok hA hd) D.mapOf ?_
  rw [hr]
  exact .mk' (hA.tk _) (.refl _ _) rep_bool h
theorem P1.not {v : V N} (h : P1B O c truthy v ρ σ (fun b σ => Q (.bool (!b)) σ) X) : P1 O c (unaryOp .Not) v ρ σ Q X := fun A env T Φ s a hA ha => by
  refine not_value (wpAny_mono (h A env T Φ s a hA ha) (fun b s' hb => ?_) fun _ _ e => e)
  obtain ⟨T', σ', a1, a2, a3, a4, a5⟩ := hb
  exact ⟨T', σ', _, a1, a2, a3, a4, rep_bool, a5⟩
theorem P1.neg {i : Int} (h : Q (.int (-i)) σ) : P1 O c (unaryOp .USub) (.int i) ρ σ Q X := fun A env T Φ s a hA ha => by
  obtain ⟨t, rfl⟩ := int_inv ha
  exact PyProof.Rows.neg_int (.mk' (hA.tk _) (.refl _ _) rep_int h)
theorem PM.getD {v : V N} {ks : List K} {vs : List (V N)} {Q : V N → List (V N) → Sto N → Prop} (hσ : v = .dct (ks.map kv.emb) vs ∨ ∃ n, v = .ref n ∧ σ n = some (.dict (ks.map kv.emb) vs)) (h : Q (.st (.builtin "dict.get")) [v] σ) : PM O c "get" v ρ σ Q X := fun A env T Φ s a pl hA ha => by
  obtain ⟨d, o, rfl, ho, hc, hd⟩ : ∃ d o, a = .ref d ∧ s.heap.get? d = some o ∧ o.cls = .type "dict" ∧ o.dict = Option.none := by
    rcases hσ with rfl | ⟨n, rfl, hσ⟩
    · unfold VRep at ha; obtain ⟨d, es, n, rfl, _, hT, _⟩ := ha; exact ⟨d, _, rfl, hA.fro hT, rfl, rfl⟩
    · obtain ⟨d, es, m, rfl, hd, ho, _⟩ := dict_at hA ha hσ; exact ⟨d, _, rfl, ho, rfl, rfl⟩
  exact getMethod_builtin ⟨o, ho, hc⟩ PySem.F.plainAttrs_dict PySem.F.slot_dict_get PySem.F.type_dict_get (fun b e => by injection e with e; subst e; exact ⟨o, ho, hd⟩) ⟨T, σ, _, _, .refl _ _, hA, by unfold VRep; rfl, .cons ha .nil, h⟩
theorem PC.getD {v w : V N} {ks : List K} {vs : List (V N)} {k : K} (ok : O.Ok) (kv : KeyV O N K) (hσ : v = .dct (ks.map kv.emb) vs ∨ ∃ n, v = .ref n ∧ σ n = some (.dict (ks.map kv.emb) vs)) (hn : ks.Nodup) (h : Q ((dget ks vs k).getD w) σ) : PC O c (.st (.builtin "dict.get")) [v, kv.emb k, w] [] [] ρ σ Q X := ⟨trivial, fun A env T Φ s fv avs kvs hA hf has hus => by
  unfold VRep at hf; subst hf
  obtain ⟨a, b, d, rfl, ha, hb, hd⟩ := three_arg has
  obtain ⟨l, es, m, rfl, hT, ho, h1, h2, h3⟩ : ∃ d es k, a = .ref d ∧ (d == sysModules) = false ∧ s.heap.get? d = some (dictOf es k) ∧ VReps O T (ks.map kv.emb) (es.map (·.key)) ∧ VReps O T vs (es.map (·.val)) ∧ ∀ e ∈ es, HashOk O.w.params e.key e.hash := by
    rcases hσ with rfl | ⟨n, rfl, hσ⟩
    · unfold VRep at ha
      obtain ⟨d, es, n, rfl, hT', hT, h1, h2, h3⟩ := ha
      exact ⟨d, es, n, rfl, beq_eq_false_iff_ne.mpr hT', hA.fro hT, h1, h2, h3⟩
    · obtain ⟨d, es, m, rfl, hd, ho, h1, h2, h3⟩ := dict_at hA ha hσ
      exact ⟨d, es, m, rfl, not_sys ok hA hd, ho, h1, h2, h3⟩
  have D := dict_of ho h1 h3 hn
  obtain ⟨i1, i2⟩ := dget_at (k := k) (ks := ks) h2
  refine call_meetsIn F.slot_dict_get ⟨_, ho, rfl⟩ F.entry_dict_get (F.args_dict_get_3 _ _ _) (meets_dict_get_default kv.knd l ((kv.is T k b).mp hb) hT d) ⟨_, D.mapOf, ?_⟩
  cases q : dget ks vs k with
  | none => rw [i2 q]; rw [q] at h; exact .mk' (hA.tk _) (.refl _ _) hd h
  | some v => obtain ⟨x, hx, hv⟩ := i1 v q; rw [hx]; rw [q] at h; exact .mk' (hA.tk _) (.refl _ _) hv h⟩
end
end Mine
set_option maxHeartbeats 4000000
namespace Mine
section
variable {N : Type} {O : Om} {c : Cx N} {ρ : Loc N} {σ : Sto N} {Q X : V N → Sto N → Prop}
/-! list.sort(key=f), the keys being strings -/
def KReps (O : Om) (T : TM N) : List (Str × V N) → List Keyed → Prop
  | [], l => l = []
  | p :: ps, l => ∃ t x r, l = (.str p.1 t, x) :: r ∧ VRep O T p.2 x ∧ KReps O T ps r
theorem KReps.cons {T : TM N} {p : Str × V N} {ps : List (Str × V N)} {t : Tok} {x : Value} {r : List Keyed} (h : VRep O T p.2 x) (g : KReps O T ps r) : KReps O T (p :: ps) ((.str p.1 t, x) :: r) := ⟨t, x, r, rfl, h, g⟩
theorem KReps.perm {T : TM N} {l m : List Keyed} (h : l.Perm m) : ∀ {ps : List (Str × V N)}, KReps O T ps m → ∃ qs, qs.Perm ps ∧ KReps O T qs l := by
  induction h with
  | nil => exact fun h => ⟨_, .refl _, h⟩
  | cons x h ih =>
    intro ps hp
    cases ps with
    | nil => cases hp
    | cons p ps =>
      obtain ⟨t, y, r, e, h1, h2⟩ := hp
      cases e
      obtain ⟨qs, q1, q2⟩ := ih h2
      exact ⟨p :: qs, q1.cons _, .cons h1 q2⟩
  | swap x y l =>
    intro ps hp
    cases ps with
    | nil => cases hp
    | cons p ps =>
      obtain ⟨t, y', r, e, h1, h2⟩ := hp
      cases e
      cases ps with
      | nil => cases h2
      | cons p' ps =>
        obtain ⟨t', y'', r', e, h1', h2⟩ := h2
        cases e
        exact ⟨p' :: p :: ps, .swap _ _ _, .cons h1' (.cons h1 h2)⟩
  | trans _ _ ih1 ih2 =>
    intro ps hp
    obtain ⟨qs, q1, q2⟩ := ih2 hp
    obtain ⟨rs, r1, r2⟩ := ih1 q2
    exact ⟨rs, r1.trans q1, r2⟩
theorem KReps.snd {T : TM N} : ∀ {ps : List (Str × V N)} {l : List Keyed}, KReps O T ps l → VReps O T (ps.map (·.2)) (l.map (·.2))
  | [], _, h => by cases h; exact .nil
  | _ :: _, _, ⟨_, _, _, e, h, g⟩ => by cases e; exact .cons h g.snd
theorem KReps.len {T : TM N} : ∀ {ps : List (Str × V N)} {l : List Keyed}, KReps O T ps l → l.length = ps.length
  | [], _, h => by cases h; rfl
  | _ :: _, _, ⟨_, _, _, e, h, g⟩ => by cases e; simp [g.len]
theorem KReps.get {T : TM N} : ∀ {ps : List (Str × V N)} {l : List Keyed} (i : Nat) {p : Str × V N}, KReps O T ps l → ps[i]? = some p → ∃ t x, l[i]? = some (.str p.1 t, x)
  | [], _, _, _, _, e => by simp at e
  | _ :: _, _, 0, _, ⟨_, _, _, e, h, g⟩, e' => by cases e; simp at e'; subst e'; exact ⟨_, _, rfl⟩
  | _ :: _, _, i + 1, _, ⟨_, _, _, e, h, g⟩, e' => by cases e; simp at e'; simpa using g.get i e'
theorem KReps.zip {T : TM N} : ∀ {ks : List Str} {vs : List (V N)} {kvs xs : List Value}, StrsAre kvs ks → VReps O T vs xs → KReps O T (ks.zip vs) (kvs.zip xs)
  | _, _, _, _, .nil, _ => by simp [KReps]
  | _, [], _, _, .cons _ _ _, h => by rw [h.nil_inv]; simp [KReps]
  | _, v :: vs, _, _, .cons x t hk, h => by obtain ⟨y, ys, rfl, a, b⟩ := h.cons_inv; exact .cons a (KReps.zip hk b)
theorem keysOf_zip {keys : List Value} {vs : List Value} {ks : List Str} (hS : StrsAre keys ks) : KeysOf strKind (keys.toArray.zip vs.toArray) := by
  intro p hp
  rw [show (keys.toArray.zip vs.toArray).toList = keys.zip vs by simp] at hp
  obtain ⟨x, t, e⟩ := hS.all _ (List.of_mem_zip hp).1
  exact ⟨x.cps.toList, by rw [e]⟩
/-- the sort's answer -/
def SortOut (ks : List Str) (vs out : List (V N)) : Prop := ∃ ps : List (Str × V N), ps.Perm (ks.zip vs) ∧ out = ps.map (·.2) ∧ ps.Pairwise fun p q => ltCps q.1.cps.toList p.1.cps.toList = false
theorem strsAre_snoc {x : Str} {t : Tok} : ∀ {vs : List Value} {ss : List Str}, StrsAre vs ss → StrsAre (vs ++ [.str x t]) (ss ++ [x])
  | _, _, .nil => .cons x t .nil
  | _, _, .cons y u h => .cons y u (strsAre_snoc h)

theorem sort_tail {A : Around} {E : Value → Shared → Prop} {s : Shared} {prog : Program} {w : World} {a kS : Addr} {n1 n2 : Nat} {kA : Array Value} {st : SortSt} {P : PySem.Fin → Shared → Prop} (ha : s.heap.get? a = some (listOf #[] n1)) (hk : s.heap.get? kS = some (listOf kA n2)) (hne : kS ≠ a) (hz1 : kA.size ≤ sizeLine) (hz2 : (arrOf st).size ≤ sizeLine) (hf : failedOf st = none)
    (h : ∀ h' tk n', h'.get? a = some (listOf ((arrOf st).map (·.2)) n') → (∃ h1, Heap.SameBut kS s.heap h1 ∧ Heap.SameBut a h1 h') → P (.done (.ret .none)) { s with heap := h', toks := tk }) :
    wpAny (model prog w) A (ksk_tail a false n1 (.ref kS) st) P E s := by
  have s1 := Heap.SameBut.update s.heap kS (Obj.mapSeq fun _ => (#[] : Array Value))
  have na1 : (s.heap.update kS (Obj.mapSeq fun _ => (#[] : Array Value))).get? a = some (listOf #[] n1) := (s1.2 a (Ne.symm hne)).trans ha
  have s2 := Heap.SameBut.update (s.heap.update kS (Obj.mapSeq fun _ => (#[] : Array Value))) a (Obj.mapSeq fun _ => (arrOf st).map (·.2))
  unfold ksk_tail
  try dsimp only
  refine wpAny_bind (listUpdate_at hk rfl ?_ (by rw [sizeLine_eq] at hz1 ⊢; omega) (Nat.zero_le _))
  refine wpAny_bind (wpAny_letGo ?_)
  refine wpAny_bind (seqEpoch_at na1 rfl ?_)
  refine wpAny_bind (listUpdate_at na1 rfl ?_ (Nat.zero_le _) (Nat.le_trans (Nat.le_of_eq (Array.size_map ..)) (by rw [sizeLine_eq] at hz2 ⊢; omega)))
  rw [hf]
  simp only [bne_self_eq_false, Bool.false_eq_true, if_false]
  exact wpAny_pure (h _ _ _ (get?_update_seq na1 fun _ => (arrOf st).map (·.2)) ⟨_, s1, s2⟩)
theorem sort_end {A : Around} {E : Value → Shared → Prop} {s : Shared} {prog : Program} {w : World} {a kS : Addr} {n1 n2 : Nat} {keys xs : List Value} {ks : List Str} {P : PySem.Fin → Shared → Prop} (ha : s.heap.get? a = some (listOf #[] n1)) (hk : s.heap.get? kS = some (listOf keys.toArray n2)) (hne : kS ≠ a) (hS : StrsAre keys ks) (hl : keys.length = xs.length) (h64 : xs.length < 64)
    (h : ∀ h' tk n' (out : Array Keyed), out.toList.Perm (keys.zip xs) → SortedToK strKind out xs.length → h'.get? a = some (listOf (out.map (·.2)) n') → (∃ h1, Heap.SameBut kS s.heap h1 ∧ Heap.SameBut a h1 h') → P (.done (.ret .none)) { s with heap := h', toks := tk }) :
    wpAny (model prog w) A (ksk_end a false xs.toArray n1 (.ref kS) keys.toArray) P E s := by
  have hzs : (keys.toArray.zip xs.toArray).size = xs.length := by rw [Array.size_zip, List.size_toArray, List.size_toArray, hl, Nat.min_self]
  have hpl : ∀ {u : Array Keyed}, u.Perm (keys.toArray.zip xs.toArray) → u.toList.Perm (keys.zip xs) := fun {u} hp => by
    have := Array.perm_iff_toList_perm.mp hp
    rwa [show (keys.toArray.zip xs.toArray).toList = keys.zip xs by simp] at this
  have hkz : keys.toArray.size ≤ sizeLine := by rw [List.size_toArray, sizeLine_eq]; omega
  unfold ksk_end
  try dsimp only
  simp only [Bool.false_eq_true, if_false]
  by_cases h2 : xs.toArray.size < 2
  · rw [if_pos h2, if_pos h2]
    refine wpAny_bind (wpAny_pure ?_)
    rw [StateT.run_pure]
    refine wpAny_bind (wpAny_pure ?_)
    try dsimp only
    refine sort_tail (st := SortSt.mk' general' (keys.toArray.zip xs.toArray) #[] 7 none) ha hk hne hkz (by show (keys.toArray.zip xs.toArray).size ≤ _; rw [hzs, sizeLine_eq]; omega) rfl fun h' tk n' q1 q2 => h h' tk n' _ (hpl (.refl _)) ?_ q1 q2
    intro i j hij hj
    rw [List.size_toArray] at h2
    have : i = j := by omega
    subst this; exact KeyOrd.kle_refl _
  · rw [if_neg h2, if_neg h2]
    rw [List.size_toArray] at h2
    have hkk : keyKind' keys.toArray = pure oneType' := by
      cases keys with
      | nil => simp at hl; omega
      | cons v₁ r =>
        cases r with
        | nil => simp at hl; omega
        | cons v₂ r => exact keyKind_strs hS
    rw [hkk]
    refine wpAny_bind (wpAny_pure ?_)
    refine wpAny_bind (wpAny_mono (wpS_sortRunsK (κ := strKind) strKind_oneLt (a₀ := keys.toArray.zip xs.toArray) (st := SortSt.mk' oneType' (keys.toArray.zip xs.toArray) #[] 7 none)
      (Q := fun _ st' => (arrOf st').Perm (keys.toArray.zip xs.toArray) ∧ failedOf st' = none ∧ SortedToK strKind (arrOf st') (keys.toArray.zip xs.toArray).size)
      (keysOf_zip hS) ⟨Array.Perm.refl _, rfl, rfl, rfl⟩ (by rw [hzs]; omega) (by rw [hzs]; exact h64) fun st' a1 a2 a3 => ⟨a1, a2, a3⟩) ?_ fun _ _ e => e)
    rintro ⟨⟨⟩, st'⟩ s' ⟨rfl, hp, hf, hs⟩
    try dsimp only
    refine sort_tail ha hk hne hkz (by rw [hp.size_eq, hzs, sizeLine_eq]; omega) hf fun h' tk n' q1 q2 => h h' tk n' _ (hpl hp) (by rw [← hzs]; exact hs) q1 q2
end
end Mine
namespace Mine
section
variable {N : Type} {O : Om} {c : Cx N} {ρ : Loc N} {σ : Sto N} {Q X : V N → Sto N → Prop}
theorem Sto.set_set {n : N} {o o' : AO N} : (σ.set n o).set n o' = σ.set n o' := by funext m; simp only [Sto.set]; split <;> rfl
theorem ksk_tree_any (f : Value) (a : Addr) : Builtin.«list.sort» ⟨[.ref a], [(Str.ofString "key", f)]⟩ = (match f with | .none => Builtin.«list.sort» ⟨[.ref a], [(Str.ofString "key", f)]⟩ | f => ksk_tree a f false) := by
  cases f <;> rfl
theorem strsAre_len : ∀ {vs : List Value} {ss : List Str}, StrsAre vs ss → vs.length = ss.length
  | _, _, .nil => rfl
  | _, _, .cons _ _ h => by simp [strsAre_len h]
theorem PM.sort {n : N} {vs : List (V N)} {Q : V N → List (V N) → Sto N → Prop} (hσ : σ n = some (.list vs)) (h : Q (.st (.builtin "list.sort")) [.ref n] σ) : PM O c "sort" (.ref n) ρ σ Q X := fun A env T Φ s a pl hA ha => by
  obtain ⟨l, xs, k, rfl, h1, h2⟩ := lst_at hA ha rfl (show itemsOf σ (.ref n) = some vs by show (match σ n with | some (.list vs) => some vs | _ => none) = _; rw [hσ])
  exact getMethod_builtin ⟨_, h1, rfl⟩ PySem.F.plainAttrs_list PySem.F.slot_list_sort PySem.F.type_list_sort (fun b e => by injection e with e; subst e; exact ⟨_, h1, rfl⟩) ⟨T, σ, _, _, .refl _ _, hA, by unfold VRep; rfl, .cons ha .nil, h⟩
theorem PC.sortKey {n : N} {vs : List (V N)} {ks : List Str} {f : V N} {D' : Nat} (hσ : σ n = some (.list vs)) (hl : ks.length = vs.length) (h64 : vs.length < 64) (hD : c.D = D' + 1) (hf : f.isRef = true ∨ ∃ a, f = .st (.ref a))
    (turn : ∀ (ob : Obj) (i : Nat) (v : V N) (k : Str), vs[i]? = some v → ks[i]? = some k → PC O { c with D := D' } f [v] [] [] ρ (σ.set n (.busy ob)) (fun u σ' => u = .str k ∧ σ' = σ.set n (.busy ob)) (fun _ _ => False))
    (h : ∀ out, SortOut ks vs out → Q .none (σ.set n (.list out))) : PC O c (.st (.builtin "list.sort")) [.ref n] ["key"] [f] ρ σ Q X := ⟨trivial, fun A env T Φ s fv avs kvs hA hfv has hus => by
  unfold VRep at hfv; subst hfv
  obtain ⟨x, rfl, hx⟩ := one_arg has
  obtain ⟨g, rfl, hg⟩ := one_arg hus
  obtain ⟨l, xs, k, rfl, h1, h2⟩ := lst_at hA hx rfl (show itemsOf σ (.ref n) = some vs by show (match σ n with | some (.list vs) => some vs | _ => none) = _; rw [hσ])
  have hT : T l = some (.own n) := by unfold VRep at hx; obtain ⟨a, e, h⟩ := hx; cases e; exact h
  obtain ⟨ga, rfl⟩ : ∃ a, g = .ref a := by
    rcases hf with hf | ⟨a, rfl⟩
    · exact ref_of hg hf
    · unfold VRep at hg; exact ⟨a, hg⟩
  obtain ⟨xl, rfl⟩ : ∃ xl : List Value, xs = xl.toArray := ⟨xs.toList, by simp⟩
  have h2' : VReps O T vs xl := by simpa using h2
  have hxl : xl.length = vs.length := h2'.length
  refine wpAny_call_entry_kw PyProof.Rows.slot_list_sort ⟨_, h1, rfl⟩ PyProof.Rows.entry_list_sort ?_ (ksk_l1 _ _)
  show wpAny _ _ (Builtin.«list.sort» ⟨[.ref l], [(Str.ofString "key", .ref ga)]⟩) _ _ _
  rw [ksk_t1]
  have s1 := Heap.SameBut.update s.heap l (Obj.mapSeq fun _ => (#[] : Array Value))
  obtain ⟨e1, ho1⟩ : ∃ e1, (s.heap.update l (Obj.mapSeq fun _ => (#[] : Array Value))).get? l = some (listOf #[] e1) := ⟨_, get?_update_seq h1 fun _ => #[]⟩
  have hA1 := hA.upd (s' := { s with heap := s.heap.update l (Obj.mapSeq fun _ => (#[] : Array Value)) }) (o' := .busy (listOf #[] e1)) hT hσ rfl rfl s1 ho1 rfl
  generalize hh1 : s.heap.update l (Obj.mapSeq fun _ => (#[] : Array Value)) = hp1 at *
  unfold ksk_tree
  refine wpAny_bind (listItems_at h1 rfl ?_)
  refine wpAny_bind (listUpdate_at h1 rfl ?_ (by rw [List.size_toArray, sizeLine_eq]; omega) (Nat.zero_le _))
  rw [hh1]
  refine wpAny_bind (seqEpoch_at ho1 rfl ?_)
  refine wpAny_bind (wpAny_newTuple ?_ (by show (List.toArray xl).toList.length ≤ _; rw [sizeLine_eq]; simp; omega))
  refine wpAny_bind (wpAny_newList ?_ (Nat.zero_le _))
  refine wpAny_holding ?_
  -- the tuple lies loose, the key store is held apart
  have hk2 : ∀ b o, hp1.get? b = some o → ((hp1.push (tupOf (List.toArray xl).toList.toArray 0)).push (listOf #[] 0)).get? b = some o := fun b o e => Heap.get?_push_of_some _ (Heap.get?_push_of_some _ e)
  obtain ⟨kS, hkS⟩ : ∃ kS, kS = (hp1.push (tupOf (List.toArray xl).toList.toArray 0)).objs.size := ⟨_, rfl⟩
  have hsz : hp1.objs.size ≤ kS := by rw [hkS, size_push']; omega
  have hA2 : At O c A env T (frAdd Φ kS (listOf #[] 0)) ρ (σ.set n (.busy (listOf #[] e1))) { s with heap := (hp1.push (tupOf (List.toArray xl).toList.toArray 0)).push (listOf #[] 0) } := by
    refine At.hold hA1 (hA1.rep.above_none hsz) (hA1.rep.above_none_fr hsz) (Nat.ne_of_gt (Nat.lt_of_lt_of_le hA1.fr.lt hsz)) ?_ ?_
    · exact fun b o _ e => hk2 b o e
    · rw [hkS]; exact Heap.get?_push_size _ rfl
  have hTk : T kS = none := hA1.rep.above_none hsz
  have hΦk : Φ kS = none := hA1.rep.above_none_fr hsz
  have hkL : kS ≠ env.locals := Nat.ne_of_gt (Nat.lt_of_lt_of_le hA1.fr.lt hsz)
  have hkl : kS ≠ l := fun e => by rw [e, hT] at hTk; cases hTk
  rw [← hkS]
  show wpAny _ _ _ _ _ { s with heap := (hp1.push (tupOf (List.toArray xl).toList.toArray 0)).push (listOf #[] 0) }
  generalize hs2 : ({ s with heap := (hp1.push (tupOf (List.toArray xl).toList.toArray 0)).push (listOf #[] 0) } : Shared) = s2 at *
  have hx2 : Ext T s T s2 := by rw [← hs2]; exact ⟨TM.le_refl _, rfl, rfl⟩
  unfold ksk_rest
  refine wpAny_bind (wpAny_rule ?_)
  rw [List.forIn_toArray]
  have gk : ∀ {T' s' kA e}, At O c A env T' (frAdd Φ kS (listOf kA e)) ρ (σ.set n (.busy (listOf #[] e1))) s' → T.le T' → s'.heap.get? kS = some (listOf kA e) ∧ s'.heap.get? l = some (listOf #[] e1) := fun {T' s' kA e} hA' le => by
    refine ⟨(hA'.rep.frs kS _ frAdd_self).2.1 fun z => z.2 _ _ rfl, ?_⟩
    obtain ⟨ob, p, o, q, r⟩ := hA'.rep.trk l _ (le _ _ hT)
    rw [Sto.set_self] at q; cases q
    have r' : ob = listOf #[] e1 := r
    rw [← r']; exact p
  refine wpAny_bind (ksk_fold (fun i s' => ∃ T' kA e, Ext T s T' s' ∧ At O c A env T' (frAdd Φ kS (listOf (List.toArray kA) e)) ρ (σ.set n (.busy (listOf #[] e1))) s' ∧ StrsAre kA (ks.take i)) xl 0 s2
    ⟨T, [], 0, hx2, hA2, by simpa using StrsAre.nil⟩ ?step ?done)
  case step =>
    rintro j x s' hx ⟨T', kA, e, ex, hA', hk⟩
    simp only [Nat.zero_add] at hk ⊢
    have hj : j < xl.length := (List.getElem?_eq_some_iff.mp hx).1
    obtain ⟨kk, hkj⟩ : ∃ k, ks[j]? = some k := ⟨_, List.getElem?_eq_getElem (by omega)⟩
    obtain ⟨v, hvj⟩ : ∃ v, vs[j]? = some v := ⟨_, List.getElem?_eq_getElem (by omega)⟩
    obtain ⟨x', hx', hvx⟩ := h2'.get hvj
    rw [hx] at hx'; cases hx'
    have hA'' := hA'.around (A' := A.in1) (D' := D') rfl rfl (Nat.le_succ _) (by show A.units + 1 ≤ _; omega) hD
    have := (turn (listOf #[] e1) j v kk hvj hkj).2 _ _ _ _ _ _ _ _ hA'' (VRep.mono ex.1 _ hg) (.cons (VRep.mono ex.1 _ hvx) .nil) .nil
    refine wpAny_bind (wpAny_attempt (wpAny_mono this (fun v s'' he => ?_) fun y s'' he => ?_))
    · obtain ⟨T'', σ'', u, le, hA3, hg3, ho3, hu, rfl, rfl⟩ := he
      obtain ⟨t2, rfl⟩ := str_inv hu
      have hA4 := hA'.back le hA3
      obtain ⟨nk, nl⟩ := gk hA4 (TM.le_trans ex.1 le)
      have s3 := Heap.SameBut.update s''.heap kS (Obj.mapSeq (·.push (.str kk t2)))
      obtain ⟨c2, hc2⟩ : ∃ c2, (s''.heap.update kS (Obj.mapSeq (·.push (.str kk t2)))).get? kS = some (listOf (List.toArray (kA ++ [.str kk t2])) c2) := ⟨_, by rw [get?_update_seq nk (·.push (.str kk t2))]; simp [W.listOf, seqObj]; rfl⟩
      have hkl2 : kA.length ≤ 64 := by have := strsAre_len hk; rw [List.length_take] at this; omega
      refine wpAny_bind (listUpdate_at nk rfl ?_ (by rw [List.size_toArray, sizeLine_eq]; omega) (Nat.le_trans (Nat.le_of_eq (Array.size_push ..)) (by rw [List.size_toArray, sizeLine_eq]; omega)))
      have hA5 := hA4.turn (s' := { s'' with heap := s''.heap.update kS (Obj.mapSeq (·.push (.str kk t2))) }) (hA.env.mono (TM.le_trans ex.1 le)) hΦk hkL s3.extBut hc2
      refine wpAny_pure ⟨rfl, T'', kA ++ [.str kk t2], c2, ex.trans ⟨le, hg3, ho3⟩, hA5, ?_⟩
      rw [List.take_add_one, hkj]
      exact strsAre_snoc hk
    · obtain ⟨_, _, _, _, _, _, _, _, _, hF⟩ := he
      exact hF.elim
  case done =>
    rintro s' ⟨T', kA, e, ex, hA', hk⟩
    rw [show ks.take (0 + xl.length) = ks from List.take_of_length_le (by omega)] at hk
    obtain ⟨nk, nl⟩ := gk hA' ex.1
    refine wpAny_bind (listItems_at nk rfl ?_)
    refine sort_end nl nk hkl hk (by rw [strsAre_len hk]; omega) (by omega) fun h' tk n' out hp hs q1 q2 => ⟨_, rfl, ?_⟩
    obtain ⟨h1', d1, d2⟩ := q2
    have hA6 := hA'.letGo (s' := { s' with heap := h1' }) (hA.env.mono ex.1) hΦk hkL d1.extBut
    have hzip : KReps O T' (ks.zip vs) (kA.zip xl) := KReps.zip hk (h2'.mono ex.1)
    obtain ⟨ps, p1, p2⟩ := KReps.perm hp hzip
    have hA7 := hA6.upd (s' := { s' with heap := h' }) (o' := .list (ps.map (·.2))) (ex.1 _ _ hT) (Sto.set_self) rfl rfl d2 q1 ⟨_, _, rfl, by rw [Array.toList_map]; exact p2.snd⟩
    rw [Sto.set_set] at hA7
    refine .mk' (hA7.tk tk) ⟨ex.1, ex.2.1, ex.2.2⟩ (by unfold VRep; rfl) (h _ ⟨ps, p1, rfl, ?_⟩)
    rw [List.pairwise_iff_getElem]
    intro i j hi hj hij
    have hl2 := p2.len
    have hsz2 : out.size = xl.length := by
      have := hp.length_eq
      rw [List.length_zip, Array.length_toList, strsAre_len hk] at this
      omega
    rw [Array.length_toList] at hl2
    have h1 := hs i j (Nat.le_of_lt hij) (by omega)
    obtain ⟨t1, x1, g1⟩ := p2.get i (List.getElem?_eq_getElem hi)
    obtain ⟨t2, x2, g2⟩ := p2.get j (List.getElem?_eq_getElem hj)
    have hio : i < out.size := by omega
    have hjo : j < out.size := by omega
    rw [Array.getElem?_toList, Array.getElem?_eq_getElem hio] at g1
    rw [Array.getElem?_toList, Array.getElem?_eq_getElem hjo] at g2
    rw [KK_str hio (Option.some.inj g1), KK_str hjo (Option.some.inj g2)] at h1
    rw [ltCps_eq]
    exact h1⟩
end
end Mine
namespace Mine
open Builtin Builtin.ObjectAttr
section
variable {prog : Program} {w : World} {A : Around} {E : Value → Shared → Prop} {s : Shared} {K : Frag} {x C f : Addr} {ox od : Obj} {name : Str} {expr : Bool} {Q : Value → Shared → Prop} {t : Tok}
theorem gab_open (X : K.In s.heap) (I : InstAt s.heap x ox C (some od)) (hga : findIn K (.ref C) "__getattribute__" = some (some (.builtin "object.__getattribute__")))
    (h : wpAny (model prog w) A.in1 (Builtin.«proto.getattr_hooked» ⟨[.ref x, .str name t], []⟩)
      (fun fin s' => match fin with | .done (.ret v) => wpAny (model prog w) A (handedOut v) Q E s' | _ => False) (fun e s' => E e s') s) :
    wpAny (model prog w) A (getAttrBy (.ref x) (.str name t) false expr) Q E s := by
  obtain ⟨hh, g, d, tk, os⟩ := s
  have L0 := I.type (M := model prog w)
  have L1 := looks_findIn (M := model prog w) X hga
  unfold getAttrBy
  refine wpAny_holding (wpAny_bind (L0.at (wpAny_bind (L1.at ?_))))
  show wpAny _ _ (getAttrEveryday _ _ _) _ _ _
  refine wpAny_bind (wpAny_onRaise (wpAny_runValue (codeAny_builtin F.plainObj_entry_getattr_hooked (wpAny_mono h (fun fin s' z => ?_) fun _ _ z => wpAny_pure z))))
  rcases fin with (_ | _ | _ | _) | _ <;> first | exact z | exact z.elim
theorem gab_value {v : Value} (X : K.In s.heap) (I : InstAt s.heap x ox C (some od)) (hga : findIn K (.ref C) "__getattribute__" = some (some (.builtin "object.__getattribute__")))
    (hf : findObj K C (some od) name = some (.value v)) (hh : handedIn v = true) (h : Q v s) : wpAny (model prog w) A (getAttrBy (.ref x) (.str name t) false expr) Q E s := by
  refine gab_open X I hga ?_
  obtain ⟨hh', g, d, tk, os⟩ := s
  have L0 := I.type (M := model prog w)
  have L1 := looks_find (M := model prog w) X I hf
  refine wpAny_bind (wpAny_pure (wpAny_bind (L0.at (wpAny_bind (L1.at ?_)))))
  refine wpAny_pure ?_
  show wpAny _ _ (handedOut v) _ _ _
  rw [handedOut_of hh]; exact wpAny_pure h
theorem gab_bind {g a : Value} (X : K.In s.heap) (I : InstAt s.heap x ox C (some od)) (hga : findIn K (.ref C) "__getattribute__" = some (some (.builtin "object.__getattribute__")))
    (hf : findObj K C (some od) name = some (.bind g a)) (hk : findIn K (.ref C) "__getattr__" = some none)
    (h : wpAny (model prog w) A.in1 (call g [a, .ref x, .ref C]) (fun v s' => wpAny (model prog w) A (handedOut v) Q E s') E s) :
    wpAny (model prog w) A (getAttrBy (.ref x) (.str name t) false expr) Q E s := by
  refine gab_open X I hga ?_
  obtain ⟨hh', gg, d, tk, os⟩ := s
  have L0 := I.type (M := model prog w)
  have L1 := looks_find (M := model prog w) X I hf
  have L2 := looks_findIn (M := model prog w) X hk
  refine wpAny_bind (wpAny_pure (wpAny_bind (L0.at (wpAny_bind (L1.at (wpAny_bind (L2.at ?_)))))))
  show wpAny _ _ (holding [a] (call g [a, .ref x, .ref C]) >>= ret) _ _ _
  exact wpAny_bind (wpAny_holding (wpAny_mono h (fun v s' z => wpAny_pure z) fun _ _ z => z))
/-- the class's name is short enough for a message -/
def nameFits (K : Frag) (C : Addr) : Bool := match clsIn K C with
  | some cd => (decide (cd.name.cps.foldl (fun k c => k + (Str.utf8Of c).length) 0 ≤ 100)) && decide ((("'" ++ cd.name.toString ++ "' object has no attribute '" : String) : Str).length ≤ 1000)
  | none => false
theorem gab_missing (X : K.In s.heap) (I : InstAt s.heap x ox C (some od)) (hga : findIn K (.ref C) "__getattribute__" = some (some (.builtin "object.__getattribute__"))) (hA : A.handled = none)
    (hf : findObj K C (some od) name = some .missing) (hk : findIn K (.ref C) "__getattr__" = some none) (hn : nameFits K C = true) (hl : name.length ≤ 1000)
    (h : ∀ h' tk e, Heap.NewExcOf s.heap h' e "AttributeError" → E (.ref e) { s with heap := h', toks := tk }) :
    wpAny (model prog w) A (getAttrBy (.ref x) (.str name t) false expr) Q E s := by
  refine gab_open X I hga ?_
  obtain ⟨hh', gg, d, tk, os⟩ := s
  have L0 := I.type (M := model prog w)
  have L1 := looks_find (M := model prog w) X I hf
  have L2 := looks_findIn (M := model prog w) X hk
  refine wpAny_bind (wpAny_pure (wpAny_bind (L0.at (wpAny_bind (L1.at (wpAny_bind (L2.at ?_)))))))
  show wpAny _ _ (noSuchAttribute (.ref x) name) _ _ _
  unfold noSuchAttribute typeNameOfCut shownTypeOf
  obtain ⟨cd, hcd, hn1, hn2⟩ : ∃ cd, clsIn K C = some cd ∧ cd.name.cps.foldl (fun k c => k + (Str.utf8Of c).length) 0 ≤ 100 ∧ ((("'" ++ cd.name.toString ++ "' object has no attribute '" : String) : Str).length ≤ 1000) := by
    unfold nameFits at hn
    split at hn
    · rename_i cd e
      rw [Bool.and_eq_true, decide_eq_true_eq, decide_eq_true_eq] at hn
      exact ⟨cd, e, hn.1, hn.2⟩
    · cases hn
  have L3 := looks_clsIn (M := model prog w) X hcd
  refine wpAny_bind (wpAny_bind (wpAny_bind (L0.at ?_)))
  refine wpAny_pure ?_
  unfold typeNameCut
  refine wpAny_bind (L3.at ?_)
  dsimp only
  rw [if_pos hn1]
  refine wpAny_pure ?_
  refine wpAny_raiseAttrError (by exact hA) (fun h' tk e he => h h' tk e he.of) ?_
  have e1 : (("'" : String) : Str).length = 1 := by decide +kernel
  refine Nat.le_trans (Nat.le_of_eq (show _ = ((("'" ++ cd.name.toString ++ "' object has no attribute '" : String) : Str) ++ name ++ (("'" : String) : Str)).length from rfl)) ?_
  rw [strLen_append, strLen_append, e1, sizeLine_eq]
  omega
theorem entry_hasattr : entryFor table "hasattr" = some Builtin.«hasattr» := entryFor_of_tree (by kernel_rfl)
theorem kind_hasattr : builtinKind "hasattr" = none := by decide +kernel
theorem plain_hasattr : plainId "hasattr" = true := by decide +kernel
theorem args_hasattr (a b : Value) : argsOk "hasattr" ⟨[a, b], []⟩ := by unfold argsOk; kernel_rfl
theorem args_getattr_3 (a b d : Value) : argsOk "getattr" ⟨[a, b, d], []⟩ := by unfold argsOk; kernel_rfl
theorem getattr3 {d : Value} (X : K.In s.heap) (I : InstAt s.heap x ox C (some od)) (hm : mroIn K C (.type "module") = some false) (hn : (name != ("get_source" : Str)) = true)
    (h : wpAny (model prog w) A.in1 (getAttrBy (.ref x) (.str name t) false) Q (fun _ _ => False) s) : wpAny (model prog w) A (call (.builtin "getattr") [.ref x, .str name t, d]) Q E s := by
  refine Calls.call_function_entry KB.kind_getattr KB.plain_getattr KB.entry_getattr (args_getattr_3 _ _ _) ?_
  have L0 := I.type (M := model prog w)
  have L1 : Looks (model prog w) s.heap (isInstance (.ref x) (.type "module")) false := L0.andThen (looks_mroIn X hm)
  unfold Builtin.«getattr»
  refine wpAny_bind (wpAny_of_eq (a := [.ref x, .str name t, d]) (by first | rfl | kernel_rfl) ?_)
  dsimp only
  refine wpAny_bind (wpAny_of_eq (a := ()) (by first | rfl | kernel_rfl) ?_)
  refine wpAny_bind ?_
  show wpAny _ _ (if (name != ("get_source" : Str)) = true then pure Option.none else _) _ _ _
  rw [if_pos hn]
  refine wpAny_pure ?_
  show wpAny _ _ (_ >>= fun road : Nat => _) _ _ _
  refine wpAny_bind ?_
  refine wpAny_bind (wpAny_pure ?_)
  refine wpAny_bind (L1.at ?_)
  refine wpAny_pure ?_
  show wpAny _ _ (if ((0 : Nat) == 1) = true then _ else _) _ _ _
  rw [if_neg (by decide)]
  refine wpAny_bind (wpAny_bind (wpAny_attempt (wpAny_mono h (fun v s' z => ?_) fun _ _ z => z.elim)))
  exact wpAny_pure (wpAny_pure ⟨_, rfl, z⟩)
theorem hasattr_no (X : K.In s.heap) (I : InstAt s.heap x ox C (some od)) (hm : mroIn K C (.type "module") = some false) 
    (h : wpAny (model prog w) A.in1 (getAttrBy (.ref x) (.str name t) false) (fun _ _ => False) (fun e s' => s'.TypeIs e "AttributeError" ∧ Q (.bool false) s') s) : wpAny (model prog w) A (call (.builtin "hasattr") [.ref x, .str name t]) Q E s := by
  refine Calls.call_function_entry kind_hasattr plain_hasattr entry_hasattr (args_hasattr _ _) ?_
  have L0 := I.type (M := model prog w)
  have L1 : Looks (model prog w) s.heap (isInstance (.ref x) (.type "module")) false := L0.andThen (looks_mroIn X hm)
  unfold Builtin.«hasattr»
  refine wpAny_bind (wpAny_of_eq (a := [.ref x, .str name t]) (by first | rfl | kernel_rfl) ?_)
  dsimp only
  refine wpAny_bind (wpAny_of_eq (a := ()) (by first | rfl | kernel_rfl) ?_)
  rw [if_neg (by simp)]
  refine wpAny_bind (L0.at ?_)
  dsimp only
  refine wpAny_bind ?_
  refine wpAny_bind (wpAny_pure ?_)
  refine wpAny_bind (L1.at ?_)
  refine wpAny_pure ?_
  refine wpAny_bind (wpAny_bind (wpAny_attempt (wpAny_mono h (fun v s' z => z.elim) fun e s' z => ?_)))
  refine wpAny_bind (wpAny_isInstance z.1 sub_AttributeError ?_)
  rw [if_pos rfl]
  refine wpAny_pure ?_
  show wpAny _ _ (if (_ && (0 : Nat) == 2) = true then _ else _) _ _ _
  rw [if_neg (by decide)]
  exact wpAny_pure ⟨_, rfl, z.2⟩
end
section
variable {N : Type} {O : Om} {c : Cx N} {ρ : Loc N} {σ : Sto N} {Q X : V N → Sto N → Prop}
/-- getattr(o, "name", default): a method that the class has -/
theorem PC.getattrM {x : Str} {n : N} {C f : Addr} {ns : List Str} {vs : List (V N)} {d : V N} (ok : O.Ok) (hc : ClsOk O C) (hσ : σ n = some (.inst C ns vs)) (hm : mroIn O.K C (.type "module") = some false) (hn : (x != ("get_source" : Str)) = true) (hcn : copiedNames.contains x = false)
    (hf : findIn O.K (.ref C) x = some (some (.ref f))) (hgf : specialIn O.K (.ref f) "__get__" = some (some (.builtin "function.__get__"))) (ht : takesIn O.K (.ref f) = some false) (hty : typeIn O.K (.ref f) = some (.type "function")) (hg : fget ns vs x = Option.none)
    (h : Q (.meth (.st (.ref f)) (.ref n)) σ) : PC O c (.st (.builtin "getattr")) [.ref n, .str x, d] [] [] ρ σ Q X := ⟨trivial, fun A env T Φ s fv avs kvs hA hfv has hus => by
  unfold VRep at hfv; subst hfv
  obtain ⟨a, b, e, rfl, ha, hb, he⟩ := three_arg has
  obtain ⟨t, rfl⟩ := str_inv hb
  obtain ⟨o, od, es, k, rfl, hx, hd, h1, h2, h3, h4, I⟩ := inst_at hA ha hσ
  have X := hA.K ok
  refine getattr3 X I hm hn (gab_bind X I hc.ga (findObj_fn hc.dict hf hgf ht hcn (by rw [lookIn_dict]; exact (KeysAre.get (x := x) h3 h4).2.1 hg)) hc.gn ?_)
  refine wpAny_call (fn_get X hty (handed_on rfl ?_))
  have hA' := hA.fro_new (o := methodObj (.ref f) (.ref o)) (s' := { s with heap := s.heap.push (methodObj (.ref f) (.ref o)) }) (fun b o e => Heap.get?_push_of_some _ e) (Nat.le_refl _) (Heap.get?_push_size _ rfl)
  have le := TM.le_ins (t := (Trk.fro (methodObj (.ref f) (.ref o)) : Trk N)) hA.rep.size_none
  exact .mk' hA' ⟨le, rfl, rfl⟩ (by unfold VRep; exact ⟨_, _, _, rfl, TM.ins_self, by unfold VRep; rfl, VRep.mono le _ ha⟩) h⟩
/-- hasattr(o, "name"): there is none -/
theorem PC.hasattrNo {x : Str} {n : N} {C : Addr} {ns : List Str} {vs : List (V N)} (ok : O.Ok) (hc : ClsOk O C) (hh : c.hd = .no) (hσ : σ n = some (.inst C ns vs)) (hm : mroIn O.K C (.type "module") = some false) (hcn : copiedNames.contains x = false)
    (hf : findIn O.K (.ref C) x = some Option.none) (hfit : nameFits O.K C = true) (hl : x.length ≤ 1000) (hg : fget ns vs x = Option.none)
    (h : Q (.bool false) σ) : PC O c (.st (.builtin "hasattr")) [.ref n, .str x] [] [] ρ σ Q X := ⟨trivial, fun A env T Φ s fv avs kvs hA hfv has hus => by
  unfold VRep at hfv; subst hfv
  obtain ⟨a, b, rfl, ha, hb⟩ := two_arg has
  obtain ⟨t, rfl⟩ := str_inv hb
  obtain ⟨o, od, es, k, rfl, hx, hd, h1, h2, h3, h4, I⟩ := inst_at hA ha hσ
  have X := hA.K ok
  obtain ⟨cd, hcd, hdd⟩ := any_some hc.dict
  refine hasattr_no X I hm (gab_missing X I hc.ga (by have := hA.env.hdok; rw [hh] at this; exact this) ?_ hc.gn hfit hl fun h' tk e he => ?_)
  · unfold findObj
    rw [hcd, Option.bind_some, hf, Option.bind_some]
    try dsimp only
    rw [Option.bind_some]
    try dsimp only
    unfold PySem.W.ownOf
    rw [if_pos hdd]
    dsimp only
    rw [lookIn_dict, (KeysAre.get (x := x) h3 h4).2.1 hg]
    simp only [Option.bind_some, hcn, Bool.false_and, Bool.false_eq_true, if_false]
  · obtain ⟨ob, vs', g1, g2, _⟩ := he.there
    exact ⟨⟨ob, g1, g2⟩, .mk' ((hA.keeps (s' := { s with heap := h' }) he.keeps).tk tk) ⟨TM.le_refl _, rfl, rfl⟩ rep_bool h⟩⟩
theorem PM.index {n : N} {vs : List (V N)} {Q : V N → List (V N) → Sto N → Prop} {v : V N} (hv : v.isLst = true) (hi : itemsOf σ v = some vs) (h : Q (.st (.builtin "list.index")) [v] σ) : PM O c "index" v ρ σ Q X := fun A env T Φ s a pl hA ha => by
  obtain ⟨l, xs, k, rfl, h1, h2⟩ := lst_at hA ha hv hi
  exact getMethod_builtin ⟨_, h1, rfl⟩ PySem.F.plainAttrs_list PySem.F.slot_list_index PySem.F.type_list_index (fun b e => by injection e with e; subst e; exact ⟨_, h1, rfl⟩) ⟨T, σ, _, _, .refl _ _, hA, by unfold VRep; rfl, .cons ha .nil, h⟩
theorem PC.index {v : V N} {is : List Int} {k : Int} (hv : v.isLst = true) (hi : itemsOf σ v = some (is.map .int)) (hk : k ∈ is) (hl : is.length < 1000000) (h : Q (.int (is.idxOf k)) σ) : PC O c (.st (.builtin "list.index")) [v, .int k] [] [] ρ σ Q X := ⟨trivial, fun A env T Φ s fv avs kvs hA hfv has hus => by
  unfold VRep at hfv; subst hfv
  obtain ⟨a, b, rfl, ha, hb⟩ := two_arg has
  obtain ⟨t, rfl⟩ := int_inv hb
  obtain ⟨l, xs, n, rfl, h1, h2⟩ := lst_at hA ha hv hi
  have hI := ints_of h2
  have hlen := hI.length
  have hj : is.idxOf k < is.length := List.idxOf_lt_length_iff.mpr hk
  have hz : xs.size = is.length := by rw [← Array.length_toList]; exact hlen
  have hI' : IntsAre xs.toList is := hI
  refine call_meets PySem.F.slot_list_index ⟨_, h1, rfl⟩ PySem.F.entry_list_index (PySem.F.args_list_index_2 _ _)
    (SeqAt.list_indexAt l xs n Option.none #[] (.int k t) (isInt k) (is.idxOf k) (by rw [hz]; exact hj) (by omega) ?_ ?_) ⟨h1, fun y hy => (eq_isInt k t hI' y (by simpa using hy)).at _ _, .mk' (hA.tk _) (.refl _ _) rep_int h⟩
  · have : isInt k (xs.toList[is.idxOf k]'(by rw [hlen]; exact hj)) = true := by
      rw [isInt_at k hI' _ (by omega) hj]
      simpa using List.getElem_idxOf hj
    simpa using this
  · intro j hjs hlt
    have : isInt k (xs.toList[j]'(by rw [Array.length_toList]; exact hjs)) = false := by
      rw [isInt_at k hI' j (by rw [Array.length_toList]; exact hjs) (by omega)]
      exact ne_of_lt_idxOf hlt _
    simpa using this⟩
end
end Mine
namespace Mine
section
variable {N : Type} {O : Om} {c : Cx N} {ρ : Loc N} {σ : Sto N} {Q X : V N → Sto N → Prop}
/-- truth by __len__ -/
theorem P1B.byLen {n : N} {C f : Addr} {ns : List Str} {vs : List (V N)} {D' : Nat} {k : Int} {Q : Bool → Sto N → Prop} {X : V N → Sto N → Prop} (ok : O.Ok) (hσ : σ n = some (.inst C ns vs)) (hb : findIn O.K (.ref C) "__bool__" = some Option.none) (hl : findIn O.K (.ref C) "__len__" = some (some (.ref f)))
    (ht : typeIn O.K (.ref f) = some (.type "function")) (hD : c.D = D' + 1) (h0 : 0 ≤ k) (h1 : k < 2 ^ 63) (h : PC O { c with D := D' } (.st (.ref f)) [.ref n] [] [] ρ σ (fun v σ' => v = .int k ∧ Q (k != 0) σ') X) : P1B O c truthy (.ref n) ρ σ Q X := fun A env T Φ s x hA hx => by
  obtain ⟨a, d, es, kk, rfl, hx', hd, g1, g2, g3, g4, I⟩ := inst_at hA hx hσ
  have Xk := hA.K ok
  unfold truthy
  refine wpAny_bind (m := callSpecial? (.ref a) (Str.ofString "__bool__")) (wpAny_bind (wpAny_bind (I.type.here ((looks_findIn Xk hb).here (wpAny_pure ?_)))))
  refine wpAny_bind (wpAny_bind (I.type.here ((looks_findIn Xk hl).here ?_)))
  show wpAny _ _ (if (some (Value.ref f)).isNone = true then _ else _) _ _ _
  rw [if_neg (by simp)]
  refine wpAny_bind (wpAny_runValue (codeAny_builtin entry_len ?_))
  rw [Around.under_plainId plain_len _]
  unfold Builtin.«len»
  refine wpAny_bind (m := oneArg "len" _) (wpAny_pure ?_)
  have hA' := hA.around (A' := A.in1) (D' := D') rfl rfl (Nat.le_succ _) (by show A.units + 1 ≤ _; omega) hD
  have hcall := h.2 _ _ _ _ _ (.ref f) [.ref a] [] hA' (by unfold VRep; rfl) (.cons hx .nil) .nil
  refine wpAny_bind (m := callSpecial? (.ref a) (Str.ofString "__len__")) (special_fn Xk I hl ht (wpAny_mono hcall (fun r s' hr => ?_) fun y s' hy => ?_))
  · obtain ⟨T', σ', v, le, hA2, hg, ho, hv, rfl, hq⟩ := hr
    obtain ⟨u, rfl⟩ := int_inv hv
    refine wpAny_bind (wpAny_holding (wpAny_pure ?_))
    refine wpAny_bind (wpAny_letGo ?_)
    show wpAny _ _ (if k < 0 then _ else _) _ _ _
    rw [if_neg (by omega)]
    show wpAny _ _ (if k ≥ 2 ^ 63 then _ else _) _ _ _
    rw [if_neg (by omega)]
    refine wpAny_bind (wpAny_mkInt (wpAny_pure ?_))
    exact wpAny_pure ⟨T', σ', le, (hA.back le hA2).tk _, hg, ho, hq⟩
  · obtain ⟨T', σ', v, le, hA2, hg, ho, hv, hx, hq⟩ := hy
    exact ⟨T', σ', v, le, hA.back le hA2, hg, ho, hv, hx, hq⟩
/-- tuple + tuple, one of them empty -/
theorem P2.addTnil {vs : List (V N)} (h : Q (.tup vs) σ) : P2 O c (binaryOp .Add) (.tup []) (.tup vs) ρ σ Q X := fun A env T Φ s x y hA hx hy => by
  obtain ⟨l, xs, n, rfl, f1, f2, _⟩ := tup_at hA hx
  obtain ⟨b, ys, m, rfl, g1, g2, _⟩ := tup_at hA hy
  have e0 : xs.isEmpty = true := by rw [← Array.isEmpty_toList, f2.nil_inv]; rfl
  exact concat_meets ⟨_, f1, rfl⟩ ⟨_, g1, rfl⟩ noFill_tuple_add seq_tuple_add PySem.F.slot_tuple_add PySem.F.entry_tuple_add (PySem.F.args_tuple_add_2 _ _)
      (tuple_addW0 l b xs ys n m Option.none Option.none #[] #[] e0) ⟨f1, g1, .mk' hA (.refl _ _) hy h⟩
end
end Mine
namespace Mine
def excBM : List Value := [.type "Exception", .type "BaseException", .type "object"]
/-- a class of exceptions below Exception; its own __init__ asked apart -/
def excInI (K : Frag) (C : Addr) : Bool := match K.lookup C with
  | some ⟨.type "type", _, .cls cd, sl⟩ => (match cd.mro, sl.toList with
    | .ref C' :: bm, [_, _, _, _, some (.builtin n), _] => C' == C && n == "Exception.__new__" && !cd.hasDel && tailIn K excBM bm
    | _, _ => false)
  | _ => false
section
variable {N : Type} {O : Om} {c : Cx N} {ρ : Loc N} {σ : Sto N} {Q X : V N → Sto N → Prop}
theorem exc_obj {K : Frag} {C : Addr} {h : Heap} (X : K.In h) (q : excInI K C = true) : ∃ nm qn N bs bm hd sn sub ab col dd k0 k1 k2 k3 k5, h.get? C = some (excClassObj nm qn C N bs bm hd sn sub ab col dd k0 k1 k2 k3 k5 "Exception.__new__") ∧ OwnTail h excBM bm ∧ ∃ cd, clsIn K C = some cd ∧ cd.ns = N := by
  unfold excInI at q
  split at q
  · rename_i dd cd sl ho
    split at q
    · rename_i C' bm k0 k1 k2 k3 n k5 hm hs
      simp only [Bool.and_eq_true, beq_iff_eq, Bool.not_eq_true'] at q
      obtain ⟨⟨⟨rfl, rfl⟩, hdel⟩, ht⟩ := q
      have hc : clsIn K C' = some cd := by unfold clsIn; rw [ho]
      obtain ⟨nm, bs, mro, ns, qn, hd, sn, sub, ab, col, del⟩ := cd
      dsimp only at hm hdel
      subst hm hdel
      have hsl : sl = #[k0, k1, k2, k3, some (.builtin "Exception.__new__"), k5] := by
        obtain ⟨l⟩ := sl
        simp only at hs
        rw [hs]
      subst hsl
      exact ⟨nm, qn, ns, bs, bm, hd, sn, sub, ab, col, dd, k0, k1, k2, k3, k5, X _ _ ho, tail_of_in X ht, _, hc, rfl⟩
    · cases q
  · cases q
structure ExcMk (O : Om) (C : Addr) : Prop where
  is : excInI O.K C = true
  call : ∃ o cd r, O.K.lookup C = some o ∧ o.data = .cls cd ∧ specialIn O.K (.ref C) "__call__" = some r
theorem ExcMk.keep (h : ExcMk O C) : KeepOk O (N := N) (.st (.ref C)) := let ⟨o, cd, r, h1, h2, h3⟩ := h.call; ⟨o, h1, .inr ⟨cd, r, h2, h3⟩⟩
theorem At.insN {A : Around} {env : Env} {T : TM N} {Φ : Addr → Option Obj} {s : Shared} (h : At O c A env T Φ ρ σ s) {s' : Shared} {a : Addr} {t : Trk N} {ob : Obj} (hk : ∀ b o, s.heap.get? b = some o → s'.heap.get? b = some o) (ha : s.heap.get? a = none) (ho : s'.heap.get? a = some ob)
    (hc : Cont O (T.ins a t) σ t ob) (hn : ∀ n, t ≠ .own n ∧ t ≠ .part n) (hb : ∀ x, t ≠ .tb x := by intro _ h; cases h) : T a = none ∧ At O c A env (T.ins a t) Φ ρ σ s' := by
  have hT : T a = none := by
    cases q : T a with
    | none => rfl
    | some t => obtain ⟨ob, p⟩ := h.rep.live q; rw [ha] at p; cases p
  have hΦ : Φ a = none := by
    cases q : Φ a with
    | none => rfl
    | some o => obtain ⟨_, _, sl, p⟩ := h.rep.frs a o q; rw [ha] at p; cases p
  refine ⟨hT, h.rep.ins hk hT hΦ ho hc hn hb, (h.fr.keeps hk).mono (TM.le_ins hT) ?_, h.env.mono (TM.le_ins hT)⟩
  rw [TM.ins_ne fun q => ?_]
  · exact h.fr.fresh
  · obtain ⟨m, ⟨o, es, ep, p, _⟩, _⟩ := h.fr.ns
    rw [q, ha] at p; cases p
/-- made by Exception's own __init__ -/
theorem PC.excPlain {C : Addr} {as : List (V N)} (ok : O.Ok) (hm : ExcMk O C) (hni : (clsIn O.K C).any (fun cd => nsOkIn O.K cd.ns && nsIn O.K cd.ns "__init__" == some Option.none) = true) (hl : as.length < 1000) (h : Q (.exc (.ref C) true [] []) σ) : PC O c (.st (.ref C)) as [] [] ρ σ Q X := ⟨hm.keep, fun A env T Φ s fv avs kvs hA hf has hus => by
  unfold VRep at hf; subst hf
  have Xk := hA.K ok
  obtain ⟨nm, qn, Ns, bs, bm, hd, sn, sub, ab, col, dd, k0, k1, k2, k3, k5, hC, hT, cd, hcd, rfl⟩ := exc_obj Xk hm.is
  rw [hcd] at hni
  have hni' : nsOkIn O.K cd.ns = true ∧ nsIn O.K cd.ns "__init__" = some Option.none := by simpa using hni
  obtain ⟨hp, g, d, t, os⟩ := s
  refine wpAny_call_exc_subT (hrest := by rw [has.length, sizeLine_eq]; omega) PySem.F.excBase_Exception hT hC (.of_isNs (isNs_of_in Xk hni'.1)) (nsMap_none_of_in Xk hni'.1 hni'.2) fun h' e he => ?_
  obtain ⟨tt, t1, t2, t3⟩ := he.there
  obtain ⟨hTe, hA'⟩ := hA.insN (s' := ⟨h', g, d, t, os⟩) (t := .exc e (.ref C) true Option.none) (a := e) he.keeps he.new t1 ⟨_, rfl, by simp, .inl rfl, fun _ => rfl⟩ fun _ => ⟨nofun, nofun⟩
  have le := TM.le_ins (t := (Trk.exc e (.ref C) true Option.none : Trk N)) hTe
  exact .mk' hA' ⟨le, rfl, rfl⟩ (by unfold VRep; exact ⟨_, rfl, .inl ⟨rfl, rfl, TM.ins_self⟩⟩) h⟩
end
end Mine
namespace Mine
open Builtin Builtin.ObjectAttr
abbrev excObjOf (C : Addr) (d : Option Addr) (t : Addr) : Obj := { cls := .ref C, dict := d, data := .fields #[.ref t, .none, .none, .none, .bool false, .none] }
/-- what a class of exceptions of one level, with an own __init__, must be -/
structure ExcSt (K : Frag) (C : Addr) : Prop where
  sa : findIn K (.ref C) "__setattr__" = some (some (.builtin "object.__setattr__"))
  mro : ∃ cd, clsIn K C = some cd ∧ cd.mro = .ref C :: excBM ∧ cd.hasDict = true
section
variable {prog : Program} {w : World} {A : Around} {E : Value → Shared → Prop} {s : Shared} {K : Frag} {x C : Addr}
theorem osa_exc {ox : Obj} {od : Option Obj} {name : Str} {tk : Tok} {v : Value} {R : Result → Shared → Prop} (X : K.In s.heap) (I : InstAt s.heap x ox C od) (hs : ExcSt K C) (hn : findIn K (.ref C) name = some none)
    (h : wpAny (model prog w) A.in1 (storeInOwnDict (.ref x) (.ref C) (.str name tk) name v false)
      (fun fin s' => match fin with | .done f => R (.ok f) s' | .again c' => c'.quiet = true ∧ codeAny (model prog w) A c' R s') (fun e s' => R (.error e) s') s) :
    codeAny (model prog w) A (.call (.builtin "object.__setattr__") ⟨[.ref x, .str name tk, v], []⟩) R s := by
  have SF := PySem.F.store_object
  have SE := PySem.F.store_Exception
  obtain ⟨cd, hc, ho, hdd⟩ := hs.mro
  have sub : Looks (model prog w) s.heap (isInstance (.ref x) (.type "object")) true := I.type.andThen (looks_mroIn X (by unfold mroIn; rw [hc, Option.bind_some, ho]; rfl))
  refine codeAny_call_builtin SF.slot.plain SF.entry (@check_slot (model prog w) _ _ s "object.__setattr__" "object" "__setattr__" (.ref x) [.str name tk, v] [] _ SF.kind SF.split sub (SF.args (.ref x) (.str name tk) v) ?_)
  have hm : Looks (model prog w) s.heap (mroOf (.ref C)) cd.mro := (looks_clsIn X hc).andThen .now
  rw [osa_eq, refuse_eq]
  refine wpAny_bind (wpAny_bind (I.type.here (wpAny_bind (hm.here ?_))))
  rw [ho, refuseLoop_ref, show refuseLoop (.ref x) "__setattr__" excBM = pure () from SE.passes _]
  refine wpAny_pure (wpAny_bind (I.type.here (wpAny_bind ((looks_findIn X hn).here (wpAny_bind (wpAny_pure ?_))))))
  exact h
/-- the first store makes the dict -/
theorem exc_set1 {name : Str} {v : Value} {t : Addr} {Q : Unit → Shared → Prop} (X : K.In s.heap) (hx : s.heap.get? x = some (excObjOf C none t)) (hs : ExcSt K C) (hn : findIn K (.ref C) name = some none)
    (h : ∀ h' tk tk2 n, h'.get? x = some (excObjOf C (some s.heap.objs.size) t) → h'.get? s.heap.objs.size = some (dictOf [⟨PyData.keyHash w.params name, .str name tk2, v⟩] n) → (∀ b o, b ≠ x → s.heap.get? b = some o → h'.get? b = some o) → Q () { s with heap := h', toks := tk }) :
    wpAny (model prog w) A (setAttr (.ref x) name v) Q E s := by
  have I : InstAt s.heap x (excObjOf C none t) C none := ⟨hx, rfl, rfl, trivial⟩
  obtain ⟨cd, hcd, ho, hdd⟩ := hs.mro
  have hlt : x < s.heap.objs.size := Heap.lt_size hx
  refine set_plain X I hs.sa (osa_exc (s := { s with toks := s.toks + 1 }) X I hs hn ?_)
  unfold storeInOwnDict ownStreamTells ownDictForStores instanceDict
  refine wpAny_bind (wpAny_pure (wpAny_bind (wpAny_bind (wpAny_loadPart (s := { s with toks := s.toks + 1 }) hx (wpAny_bind ((looks_clsIn X hcd : Looks (model prog w) s.heap _ _) A.in1 _ _ { s with toks := s.toks + 1 } (fun _ _ e => e) ?_))))))
  rw [hdd]
  dsimp only
  show wpAny _ _ (alloc emptyDict >>= _) _ _ _
  have hx1 : (s.heap.push emptyDict).get? x = some (excObjOf C none t) := Heap.get?_push_of_some _ hx
  have hne : x ≠ s.heap.objs.size := Nat.ne_of_lt hlt
  refine wpAny_bind (wpAny_alloc (wpAny_bind (wpAny_update (s := { s with heap := s.heap.push emptyDict, toks := s.toks + 1 }) hx1 ?_)))
  refine wpAny_pure ?_
  have hx2 := Heap.get?_update_self (fun o : Obj => { o with dict := some s.heap.objs.size }) hx1 rfl
  have hd2 : ((s.heap.push emptyDict).update x (fun o : Obj => { o with dict := some s.heap.objs.size })).get? s.heap.objs.size = some (dictOf [] 0) := (Heap.get?_update_ne _ _ _ _ (Ne.symm hne)).trans (Heap.get?_push_at rfl rfl)
  have hk2 : ∀ b o, b ≠ x → s.heap.get? b = some o → ((s.heap.push emptyDict).update x (fun o : Obj => { o with dict := some s.heap.objs.size })).get? b = some o := fun b o hb e => (Heap.get?_update_ne _ _ _ _ hb).trans (Heap.get?_push_of_some _ e)
  generalize (s.heap.push emptyDict).update x (fun o : Obj => { o with dict := some s.heap.objs.size }) = h2 at hx2 hd2 hk2
  show wpAny _ _ (storeInDict s.heap.objs.size (.str name _) name v) _ _ _
  unfold storeInDict newKeyGuard
  refine wpAny_bind (wpAny_pure (wpAny_bind ?_))
  unfold nsSet
  refine wpAny_bind (wpAny_bind (wpAny_askSetting (wpAny_pure (wpAny_bind (wpAny_mkText (wpAny_bind (wpAny_loadPart (s := { s with heap := h2, toks := s.toks + 2 }) hd2 ?_)))))))
  dsimp only
  rw [aRefKeyMayBeTheName_at, if_neg (by simp)]
  refine wpAny_updatePart (s := { s with heap := h2, toks := s.toks + 2 }) hd2 ?_
  have hself := Heap.get?_update_self (Obj.putName name (PyData.keyHash w.params name) (.str name (s.toks + 1)) v) hd2 (by rw [putName_dict]; rfl)
  rw [putName_dict] at hself
  have hsame := Heap.SameBut.update h2 s.heap.objs.size (Obj.putName name (PyData.keyHash w.params name) (.str name (s.toks + 1)) v)
  refine wpAny_bind (wpAny_lookBehind (s := { s with toks := s.toks + 2, heap := h2.update s.heap.objs.size _ }) hself ?_ ?_)
  · refine pastItsLine_dict ?_
    rw [List.size_toArray, sizeLine_eq]; show 1 ≤ _; omega
  · exact wpAny_pure (h _ _ _ _ ((hsame.2 x hne).trans hx2) hself fun b o hb e => (hsame.2 b (Nat.ne_of_lt (Heap.lt_size e))).trans (hk2 b o hb e))
/-- another store -/
theorem exc_set2 {name : Str} {v : Value} {t d : Addr} {es : List DictEntry} {k : Nat} {Q : Unit → Shared → Prop} (X : K.In s.heap) (hx : s.heap.get? x = some (excObjOf C (some d) t)) (hd : s.heap.get? d = some (dictOf es k)) (hs : ExcSt K C) (hn : findIn K (.ref C) name = some none)
    (hr : es.any (·.refKey) = false) (hz : es.length < 100)
    (h : ∀ h' tk tk2 n, h'.get? d = some (dictOf (putL name (PyData.keyHash w.params name) (.str name tk2) v es) n) → Heap.SameBut d s.heap h' → Q () { s with heap := h', toks := tk }) :
    wpAny (model prog w) A (setAttr (.ref x) name v) Q E s := by
  have I : InstAt s.heap x (excObjOf C (some d) t) C (some (dictOf es k)) := ⟨hx, rfl, rfl, hd⟩
  obtain ⟨cd, hcd, ho, hdd⟩ := hs.mro
  refine set_plain X I hs.sa (osa_exc (s := { s with toks := s.toks + 1 }) X I hs hn ?_)
  unfold storeInOwnDict ownStreamTells ownDictForStores instanceDict
  refine wpAny_bind (wpAny_pure (wpAny_bind (wpAny_bind (wpAny_loadPart (s := { s with toks := s.toks + 1 }) hx (wpAny_bind ((looks_clsIn X hcd : Looks (model prog w) s.heap _ _) A.in1 _ _ { s with toks := s.toks + 1 } (fun _ _ e => e) ?_))))))
  rw [hdd]
  refine wpAny_pure (a := some d) ?_
  show wpAny _ _ (storeInDict d (.str name _) name v) _ _ _
  unfold storeInDict newKeyGuard
  refine wpAny_bind (wpAny_pure (wpAny_bind ?_))
  unfold nsSet
  refine wpAny_bind (wpAny_bind (wpAny_askSetting (wpAny_pure (wpAny_bind (wpAny_mkText (wpAny_bind (wpAny_loadPart (s := { s with toks := s.toks + 2 }) hd ?_)))))))
  dsimp only
  have hany : es.toArray.any (·.refKey) = false := by rw [← Array.any_toList]; exact hr
  rw [aRefKeyMayBeTheName_at, hany, Bool.and_false]
  refine wpAny_updatePart (s := { s with toks := s.toks + 2 }) hd ?_
  have hself := Heap.get?_update_self (Obj.putName name (PyData.keyHash w.params name) (.str name (s.toks + 1)) v) hd (by rw [putName_dict]; rfl)
  rw [putName_dict] at hself
  have hsame := Heap.SameBut.update s.heap d (Obj.putName name (PyData.keyHash w.params name) (.str name (s.toks + 1)) v)
  refine wpAny_bind (wpAny_lookBehind (s := { s with toks := s.toks + 2, heap := s.heap.update d _ }) hself ?_ ?_)
  · refine pastItsLine_dict ?_
    have hl : ∀ (l : List DictEntry), (putL name (PyData.keyHash w.params name) (.str name (s.toks + 1)) v l).length ≤ l.length + 1 := fun l => by
      induction l with
      | nil => exact Nat.le_refl _
      | cons e r ih => unfold putL; split <;> simp <;> omega
    have := hl es
    rw [List.size_toArray, sizeLine_eq]; omega
  · exact wpAny_pure (h _ _ _ _ hself hsame)
end
end Mine
namespace Mine
section
variable {prog : Program} {w : World} {A : Around} {E : Value → Shared → Prop} {h : Heap} {g : Array GenState} {d : Drawn} {t : Nat} {os : OsState}
theorem exc_type_call {K : Frag} {C fI : Addr} {rest : List Value} {Q : Fin → Shared → Prop} (X : K.In h) (hm : excInI K C = true) (hi : findIn K (.ref C) "__init__" = some (some (.ref fI))) (hf : typeIn K (.ref fI) = some (.type "function")) (hrest : rest.length ≤ sizeLine)
    (hq : wpAny (model prog w) A (call (.ref fI) (.ref (h.objs.size + 1) :: rest)) (fun v s' => v = .none ∧ Q (.done (.ret (.ref (h.objs.size + 1)))) s') E ⟨(h.push { cls := .type "tuple", data := .seq rest.toArray }).push (excObjOf C none h.objs.size), g, d, t, os⟩) :
    wpAny (model prog w) A (Builtin.«type.__call__» ⟨.ref C :: rest, []⟩) Q E ⟨h, g, d, t, os⟩ := by
  have F := PySem.F.excBase_Exception
  obtain ⟨nm, qn, N, bs, bm, hd, sn, sub, ab, col, dd, k0, k1, k2, k3, k5, hC, T, -⟩ := exc_obj X hm
  repeat (first | with_reducible refine wpAny_loadPart_at hC ?_ | with_reducible refine wpAny_madeBy_exc hC ?_ | wp_step)
  refine codeAny_call_builtin_code (Code.quiet_builtin _ F.quiet) (wpAny_check_new_subT F T hC ?_)
  refine codeAny_exc_new_subT F T hC ?_ hrest
  show wpAny _ _ _ _ _ _
  have hk : ∀ b o, h.get? b = some o → ((h.push { cls := .type "tuple", data := .seq rest.toArray }).push (excObjOf C none h.objs.size)).get? b = some o := fun b o e => Heap.get?_push_of_some _ (Heap.get?_push_of_some _ e)
  have hC₁ := hk _ _ hC
  have hget : ((h.push { cls := .type "tuple", data := .seq rest.toArray }).push (excObjOf C none h.objs.size)).get? (h.objs.size + 1) = some (excObjOf C none h.objs.size) := by heap_get
  have hcC : (Value.ref C :: bm).contains (.ref C) = true := by simp
  have L1 := looks_findIn (M := model prog w) (X.keeps hk) hi
  have L2 := bind_fn (M := model prog w) (X.keeps hk) (.ref (h.objs.size + 1)) hf
  unfold isInstance
  repeat (first | with_reducible refine wpAny_loadPart_at hget ?_ | (with_reducible refine wpAny_isSubtype_exc hC₁ ?_; rw [hcC]) | wp_step)
  show wpAny _ _ (typeLookup (.ref C) _) _ _ _
  refine L1.at ?_
  refine wpAny_holding (wpAny_bind (L2.at ?_))
  refine wpAny_bind (wpAny_mono hq (fun v s' hv => ?_) fun _ _ e => e)
  obtain ⟨rfl, hv⟩ := hv
  exact wpAny_pure (wpAny_pure hv)
theorem exc_call {K : Frag} {C fI : Addr} {rest : List Value} {Q : Value → Shared → Prop} (X : K.In h) (hm : excInI K C = true) (hi : findIn K (.ref C) "__init__" = some (some (.ref fI))) (hf : typeIn K (.ref fI) = some (.type "function")) (hrest : rest.length ≤ sizeLine)
    (hq : wpAny (model prog w) (A.under (.builtin "type.__call__" ⟨.ref C :: rest, []⟩)) (call (.ref fI) (.ref (h.objs.size + 1) :: rest)) (fun v s' => v = .none ∧ Q (.ref (h.objs.size + 1)) s') E ⟨(h.push { cls := .type "tuple", data := .seq rest.toArray }).push (excObjOf C none h.objs.size), g, d, t, os⟩) :
    wpAny (model prog w) A (call (.ref C) rest) Q E ⟨h, g, d, t, os⟩ := by
  obtain ⟨nm, qn, N, bs, bm, hd, sn, sub, ab, col, dd, k0, k1, k2, k3, k5, hC, T, -⟩ := exc_obj X hm
  have f1 := tc_lookup
  have f2 := PySem.tc_bind (.ref C)
  have hT : (⟨h, g, d, t, os⟩ : Shared).TypeIs (.ref C) "type" := ⟨_, hC, rfl⟩
  refine wpAny_call (codeAny_of_tree ?_)
  show wpAny _ _ (callAny (.ref C) _) _ _ _
  repeat (any_goals (first | assumption | with_reducible refine wpAny_loadPart_at hC ?_ | wp_step))
  refine ⟨rfl, ?_⟩
  refine codeAny_call_builtin_at (Code.quiet_builtin _ (by decide +kernel)) entry_typeCall (wpAny_check_type_call_sub hC (exc_type_call X hm hi hf hrest (wpAny_mono hq (fun v s' z => ?_) fun _ _ z => ?_)))
  · exact z
  · exact z
end
section
variable {N : Type} {O : Om} {c : Cx N} {A : Around} {env : Env} {T T₀ T₁ : TM N} {Φ : Addr → Option Obj} {ρ ρ₁ : Loc N} {σ σ' : Sto N} {s s₀ s₁ s' : Shared}
/-- a call of a function with a suite for its body, the body's entry given as it is -/
theorem call_in {as : List (V N)} {avs : List Value} {a : Addr} {o : Obj} {fd : FuncData} {r : CodeRow} {nest : Bool} {ns : List Str} {D' : Nat} {body : List PySem.Stmt} {Q : Value → Shared → Prop} {E : Value → Shared → Prop}
    (ok : O.Ok) (hA : At O c A env T Φ ρ σ s) (ho : s.heap.get? a = some o) (hd : o.data = .func fd) (F : FdOk O T s.heap fd r nest [] []) (R : RowOk r ns) (has : VReps O T as avs)
    (hb : bindOk ns 0 as [] = true) (hcell : cellNames r.scope.names = []) (hD : c.D = D' + 1) (hbody : r.body = .stmts body)
    (h : ∀ env' T' ox s', T.le T' → s'.gens = s.gens → s'.os = s.os → (∀ b o, s.heap.get? b = some o → s'.heap.get? b = some o) → s.heap.get? env.locals = some ox →
      At O ⟨⟨r.scope, r.qual ++ (".<locals>." : Str), nest⟩, kapOf r.scope (fun _ => none) (bindP ns [] as []) [], D', c.hd⟩ (A.deeper env') env' T' (frAdd Φ env.locals ox) (locOf r.scope (bindP ns [] as [])) σ s' →
      wpAny (model O.prog O.w) (A.deeper env') (execs body env') (fun f s₂ => Q (flowVal f) s₂) (fun _ _ => False) s') :
    wpAny (model O.prog O.w) A (call (.ref a) avs) Q E s := by
  obtain ⟨dvs, d1, d2⟩ := F.dflt
  rw [d2.nil_inv] at d1
  have hroom : A.depth < recursionLimit := by have := hA.env.depth; omega
  have hbr : PReps O T (bindP ns [] as []) (bindP ns [] avs []) := bindP_rep (ns := ns) (kn := []) (us := []) (kvs := []) (ds := ([] : List (V N))) (O := O) (T := T) .nil has .nil
  have hbind := binds_ok (fd := fd) (kw := []) (by rw [F.params]; exact R.posonly) (by rw [F.params]; exact R.args) (by rw [F.params]; exact R.kwonly) (by rw [F.params]; exact R.vararg) (by rw [F.params]; exact R.kwarg) d1
    (by have := bindOk_rep (ns := ns) (nd := 0) (kn := []) (us := ([] : List (V N))) (kvs := []) has .nil; exact this.trans hb : bindOk ns ([] : List Value).length avs [] = true)
  obtain ⟨bn1, bn2⟩ := bindP_names (ds := ([] : List (V N))) (pos := as) (kw := []) R.nsd
  have hrs : ∀ x ∈ bindP ns [] avs [], r.scope.names.lookup x.1 = some .local ∨ r.scope.names.lookup x.1 = some .cell := fun x hx => R.nsk x.1 (bn2 _ (by rw [← preps_fst hbr]; exact List.mem_map.mpr ⟨x, hx, rfl⟩))
  refine wpAny_call (codeAny_call_function hroom ho hd (by rw [F.scope]; exact R.co) (by rw [F.scope]; exact R.gen) (by rw [F.body]; exact hbody) (by rw [F.qual]; exact F.code) (hbind _ _ _ _ ?_))
  rw [F.scope, F.globals, F.qual, F.builtins]
  refine lay_env R.kind R.nodup hrs fun h' tk hx => ?_
  obtain ⟨T', ox, le, hox, hA'⟩ := enter (fc := ⟨r.scope, r.qual ++ (".<locals>." : Str), nest⟩) (bd := bindP ns [] as []) (nm := fun _ => none) (a := a) (cd := fd.code) (tk := tk) hA hx hbr bn1 R.kind R.co R.nodup F.clo1 F.clo2 (by rw [hcell]; simp) (by rw [hcell]; simp) F.nest hD
  rw [hcell] at hA'
  refine ⟨(hA.top ok).nolimit.keeps hx.keep, codeAny_func (wpAny_mono (h _ T' ox _ le rfl rfl hx.keep hox hA') (fun f s₂ hp => ?_) fun x s₂ hp => hp.elim)⟩
  cases f <;> exact hp
end
end Mine
namespace Mine
section
variable {N : Type} {O : Om} {c : Cx N} {A : Around} {env : Env} {T T₀ T₁ : TM N} {Φ : Addr → Option Obj} {ρ ρ₁ : Loc N} {σ σ' : Sto N} {s s₀ s₁ s' : Shared} {Q X : V N → Sto N → Prop}
theorem name_raw {e : PySem.Expr} {i : Nat} {y : Str} {m : Str → Option Value} {a : Value} {Q : Value → Shared → Prop} {E : Value → Shared → Prop} (V : EnvOk O c A env T Φ) (he : CE O c.fc e (.loc i)) (hi : c.fc.at i y .local) (hn : s.heap.Ns env.locals m) (ha : m y = some a) (h : Q a s) :
    wpAny (model O.prog O.w) A (eval e env) Q E s := by
  cases he with
  | loc hx hd =>
    obtain ⟨rfl, _⟩ := at_inj hi hx
    exact wpAny_Name (wpAny_loadName_local V.ekind (V.kindOf hi) hn ha h) hd
theorem set_stmt {st : PySem.Stmt} {i j : Nat} {x y z : Str} {m : Str → Option Value} {a b : Value} {Q : Flow → Shared → Prop} {E : Value → Shared → Prop} (V : EnvOk O c A env T Φ) (he : CS O c.fc st (.asg [.attr (.loc i) x] (.loc j))) (hi : c.fc.at i y .local) (hj : c.fc.at j z .local) (hn : s.heap.Ns env.locals m) (ha : m y = some a) (hb : m z = some b)
    (h : wpAny (model O.prog O.w) A (setAttr a x b) (fun _ s' => Q .next s') E s) : wpAny (model O.prog O.w) A (exec st env) Q E s := by
  cases he with
  | asg hts hm' =>
    cases hts with
    | cons ht' hst hne =>
      cases hne
      rename_i e0 p t0
      refine wpAny_Assign_stores (name_raw V hm' hj hn hb ?_) (by
        show swapsWithSole [t0] e0 p.line env = pure false
        exact swaps_none (notComp_of hm' rfl)) (swapped_none' ht' rfl)
      have e1 : (assignEach [t0] env).map (·.2) = [assign t0 env] := by
        cases t0 <;> first | rfl | exact absurd rfl (hst _ _)
      rw [e1]
      cases ht' with
      | attr hm =>
        rename_i ea p1
        show wpAny _ _ (do
          let ov ← holding [b] (eval ea env)
          standAt p1.atName
          holding [b, ov] (setAttr ov x b)
          release [b, ov] []) _ _ s
        refine wpAny_bind (wpAny_holding (name_raw V hm hi hn ha ?_))
        refine wpAny_bind (wpAny_standAt (wpAny_bind (wpAny_holding (wpAny_mono h (fun _ s' hq => ?_) fun _ _ e => e))))
        exact wpAny_release hq
theorem Rep.drop {I : Addr} {o : Obj} {h h' : Heap} (R : Rep O T (frAdd Φ I o) σ h) (hΦ : Φ I = none) (hx : Heap.ExtBut I h h') : Rep O T Φ σ h' := by
  have hT := (R.frs I o frAdd_self).1
  have same : ∀ a t, T a = some t → h'.get? a = h.get? a := fun a t e => by
    obtain ⟨ob, p⟩ := R.live e
    rw [p]; exact hx a ob (fun q => by rw [q, hT] at e; cases e) p
  refine ⟨fun a t e => let ⟨ob, p, q⟩ := R.trk a t e; ⟨ob, (same a t e).trans p, q⟩, fun a x e => ?_, R.own, R.inj, R.pin, R.base, R.tabs, fun b a e => (R.noted b a e).keep (TM.le_refl _) fun t q => same a t q⟩
  have q : a ≠ I := fun z => by rw [z, hΦ] at e; cases e
  obtain ⟨p, w, sl, r⟩ := R.frs a x (by rw [frAdd_ne q]; exact e)
  have e2 := hx a _ q r
  exact ⟨p, fun z => by rw [e2, ← r]; exact w z, sl, e2⟩
theorem PC.excOwn {C fI : Addr} {r : CodeRow} {nest : Bool} {p0 p1 p2 x1 x2 : Str} {v1 v2 : V N} {D' : Nat} (ok : O.Ok) (hm : ExcMk O C) (hs : ExcSt O.K C) (hi : findIn O.K (.ref C) "__init__" = some (some (.ref fI))) (hf : typeIn O.K (.ref fI) = some (.type "function"))
    (F : FnSt O fI r nest ([] : List (V N))) (R : RowOk r [p0, p1, p2]) (hcb : CB O ⟨r.scope, r.qual ++ (".<locals>." : Str), nest⟩ r.body (.inl [.asg [.attr (.loc 0) x1] (.loc 1), .asg [.attr (.loc 0) x2] (.loc 2)]))
    (hn1 : findIn O.K (.ref C) x1 = some Option.none) (hn2 : findIn O.K (.ref C) x2 = some Option.none) (hne : x1 ≠ x2)
    (hl : ∀ a b d : V N, bindOk [p0, p1, p2] 0 [a, b, d] [] = true ∧ locOf r.scope (bindP [p0, p1, p2] [] [a, b, d] []) 0 = some a ∧ locOf r.scope (bindP [p0, p1, p2] [] [a, b, d] []) 1 = some b ∧ locOf r.scope (bindP [p0, p1, p2] [] [a, b, d] []) 2 = some d) (hcell : cellNames r.scope.names = [])
    (hD : c.D = D' + 2) (h : Q (.exc (.ref C) true [x1, x2] [v1, v2]) σ) : PC O c (.st (.ref C)) [v1, v2] [] [] ρ σ Q X := ⟨hm.keep, fun A env T Φ s fv avs kvs hA hfv has hus => by
  unfold VRep at hfv; subst hfv
  have Xk := hA.K ok
  obtain ⟨a1, a2, rfl, h1, h2⟩ := two_arg has
  obtain ⟨hp, g, d, t, os⟩ := s
  refine exc_call Xk hm.is hi hf (by simp [sizeLine_eq]) ?_
  have hk : ∀ b o, hp.get? b = some o → ((hp.push { cls := .type "tuple", data := .seq [a1, a2].toArray }).push (excObjOf C Option.none hp.objs.size)).get? b = some o := fun b o e => Heap.get?_push_of_some _ (Heap.get?_push_of_some _ e)
  have hget : ((hp.push { cls := .type "tuple", data := .seq [a1, a2].toArray }).push (excObjOf C Option.none hp.objs.size)).get? (hp.objs.size + 1) = some (excObjOf C Option.none hp.objs.size) := by heap_get
  generalize ((hp.push { cls := .type "tuple", data := .seq [a1, a2].toArray }).push (excObjOf C Option.none hp.objs.size)) = h1' at hk hget
  obtain ⟨e, he⟩ : ∃ e, e = hp.objs.size + 1 := ⟨_, rfl⟩
  rw [← he] at hget ⊢
  have hfresh : ∀ b o, hp.get? b = some o → b ≠ e := fun b o q hb => by have := Heap.lt_size q; rw [hb, he] at this; exact absurd this (by simp)
  generalize hp.objs.size = tp at hget
  have hTe : T e = none := by cases q : T e with | none => rfl | some t => obtain ⟨ob, p⟩ := hA.rep.live q; exact absurd rfl (hfresh _ _ p)
  have hΦe : Φ e = none := by cases q : Φ e with | none => rfl | some o => obtain ⟨_, _, sl, p⟩ := hA.rep.frs e o q; exact absurd rfl (hfresh _ _ p)
  have hLe0 : e ≠ env.locals := fun q => by obtain ⟨m, ⟨o, es, ep, p, _⟩, _⟩ := hA.fr.ns; exact hfresh _ _ p q.symm
  have hA0 := hA.keeps (s' := ⟨h1', g, d, t, os⟩) hk
  have hA1 := hA.hold (s' := ⟨h1', g, d, t, os⟩) hTe hΦe hLe0 (fun b o _ q => hk b o q) hget
  have hA2 := hA1.around (A' := A.under (.builtin "type.__call__" ⟨.ref C :: [a1, a2], []⟩)) (D' := D' + 1) rfl (by kernel_rfl) (Nat.add_le_add_left (Nat.le_of_eq (show (Code.builtin "type.__call__" ⟨.ref C :: [a1, a2], []⟩).weight = 1 by kernel_rfl)) _) (Nat.add_le_add_left (show (Code.builtin "type.__call__" ⟨.ref C :: [a1, a2], []⟩).cUnits ≤ 40 from (show (Code.builtin "type.__call__" ⟨.ref C :: [a1, a2], []⟩).cUnits = 1 by kernel_rfl) ▸ (by decide)) _) hD
  obtain ⟨of, fd, f1, f2, f3⟩ := F.fd ok hA2
  cases hbody : r.body with
  | expr => rw [hbody] at hcb; exact hcb.elim
  | stmts body =>
    rw [hbody] at hcb
    obtain ⟨b1, l0, l1, l2⟩ := hl (.st (.ref e)) v1 v2
    refine call_in ok hA2 f1 f2 f3 R (.cons (by unfold VRep; rfl) (.cons h1 (.cons h2 .nil))) b1 hcell rfl hbody fun env' T' ox s2 le hg hos hk2 hox hA3 => ?_
    cases hcb with
    | cons c1 cr =>
      cases cr with
      | cons c2 cn =>
        cases cn
        obtain ⟨m, hns, hall⟩ := hA3.fr.ns
        obtain ⟨y0, w0, g0, q0, r0⟩ := hall 0 _ l0
        obtain ⟨y1, w1, g1, q1, r1⟩ := hall 1 _ l1
        obtain ⟨y2, w2, g2, q2, r2⟩ := hall 2 _ l2
        unfold VRep at r0; subst r0
        have X2 : O.K.In s2.heap := hA3.K ok
        have hge := hk2 _ _ hget
        have hLe : env'.locals ≠ e := fun q => by
          obtain ⟨o, es, ep, p1, p2, _⟩ := hns
          rw [q, hge] at p1; cases p1; cases p2
        refine wpAny_execs_cons (set_stmt hA3.env c1 g0 g1 hns q0 q1 (exc_set1 X2 hge hs hn1 fun h3 tk tk2 n3 u1 u2 u3 => ?_))
        have hns3 : h3.Ns env'.locals m := by obtain ⟨o, es, ep, p1, p2⟩ := hns; exact ⟨o, es, ep, u3 _ _ hLe p1, p2⟩
        have X3 : O.K.In h3 := fun b o q => u3 b o (hfresh b o (Xk b o q)) (X2 b o q)
        refine wpAny_execs_cons (set_stmt (s := { s2 with heap := h3, toks := tk }) hA3.env c2 g0 g2 hns3 q0 q2 (exc_set2 X3 u1 u2 hs hn2 rfl (by simp) fun h4 tk4 tk5 n4 u4 u5 => ?_))
        refine wpAny_execs_nil ⟨rfl, ?_⟩
        have hts : s2.heap.objs.size ≠ e := fun q => by have := Heap.lt_size hge; rw [← q] at this; exact Nat.lt_irrefl _ this
        have hext : Heap.ExtBut e s2.heap h4 := fun b o hb q => (u5.2 b (fun z => by have := Heap.lt_size q; rw [z] at this; exact Nat.lt_irrefl _ this)).trans (u3 b o hb q)
        have hΦ2 : frAdd Φ env.locals ox e = none := by rw [frAdd_ne hLe0]; exact hΦe
        have R2 : Rep O T' (frAdd (frAdd Φ env.locals ox) e (excObjOf C Option.none tp)) σ s2.heap := by rw [frAdd_comm (Ne.symm hLe0)]; exact hA3.rep
        have R4 := R2.drop hΦ2 hext
        have hTe' : T' e = none := (R2.frs e _ frAdd_self).1
        have hTd : T' s2.heap.objs.size = none := R2.size_none
        have hΦd : frAdd Φ env.locals ox s2.heap.objs.size = none := by have := R2.size_none_fr; rwa [frAdd_ne hts] at this
        have R5 := R4.ins (t := .fro _) (fun _ _ q => q) hTd hΦd u4 rfl fun _ => ⟨nofun, nofun⟩
        have hTe5 : (T'.ins s2.heap.objs.size (.fro (dictOf (putL x2 (PyData.keyHash O.w.params x2) (.str x2 tk5) w2 [⟨PyData.keyHash O.w.params x1, .str x1 tk2, w1⟩]) n4)) : TM N) e = none := by rw [TM.ins_ne (Ne.symm hts)]; exact hTe'
        have u6 : h4.get? e = some (excObjOf C (some s2.heap.objs.size) tp) := (u5.2 e (Ne.symm hts)).trans u1
        have R6 := R5.ins (t := .exc e (.ref C) true (some s2.heap.objs.size)) (fun _ _ q => q) hTe5 hΦ2 u6 ⟨_, rfl, by simp, .inl rfl, fun _ => rfl⟩ fun _ => ⟨nofun, nofun⟩
        have le5 := TM.le_ins (t := (Trk.fro (dictOf (putL x2 (PyData.keyHash O.w.params x2) (.str x2 tk5) w2 [⟨PyData.keyHash O.w.params x1, .str x1 tk2, w1⟩]) n4) : Trk N)) hTd
        have le6 := TM.le_ins (t := (Trk.exc e (.ref C) true (some s2.heap.objs.size) : Trk N)) hTe5
        have hK1 : KeysAre O.w.params [x1] [⟨PyData.keyHash O.w.params x1, .str x1 tk2, w1⟩] := ⟨_, _, rfl, ⟨_, rfl⟩, rfl, rfl⟩
        obtain ⟨k1, k2⟩ := KeysAre.put (x := x2) (tk := tk5) (VRep.mono (TM.le_trans le5 le6) _ r2) hK1 (VReps.cons (vs := []) (VRep.mono (TM.le_trans le5 le6) _ r1) .nil)
        have ek : fputN [x1] x2 = [x1, x2] := by simp [fputN, hne]
        have ev : fputV [x1] [v1] x2 v2 = [v1, v2] := by simp [fputV, hne]
        rw [ek] at k1
        rw [ev] at k2
        exact .mk' (s' := { s2 with heap := h4, toks := tk4 }) (leave hA0 hox (TM.le_trans le (TM.le_trans le5 le6)) R6) ⟨TM.le_trans le (TM.le_trans le5 le6), hg, hos⟩ (by unfold VRep; exact ⟨e, rfl, .inr ⟨_, _, _, TM.ins_self, by rw [TM.ins_ne hts]; exact TM.ins_self, k1, k2⟩⟩) h⟩
end
end Mine
namespace Mine
open Builtin Builtin.ObjectAttr
section
variable {prog : Program} {w : World} {A : Around} {E : Value → Shared → Prop} {s : Shared} {K : Frag} {x C : Addr}
theorem bga_kind : builtinKind "BaseException.__getattribute__" = some .slot := by decide +kernel
theorem bga_split : splitId "BaseException.__getattribute__" = some ("BaseException", "__getattribute__") := by decide +kernel
theorem exc_get {ox od : Obj} {name : Str} {v : Value} {expr : Bool} {Q : Value → Shared → Prop} (X : K.In s.heap) (I : InstAt s.heap x ox C (some od)) (hga : findIn K (.ref C) "__getattribute__" = some (some (.builtin "BaseException.__getattribute__"))) (hgn : findIn K (.ref C) "__getattr__" = some none)
    (hm : mroIn K C (.type "BaseException") = some true) (hf : findObj K C (some od) name = some (.value v)) (hh : handedIn v = true) (h : Q v { s with toks := s.toks + 1 }) : wpAny (model prog w) A (getAttr (.ref x) name expr) Q E s := by
  have L0 := I.type (M := model prog w)
  have L1 := looks_findIn (M := model prog w) X hga
  have L2 := looks_findIn (M := model prog w) X hgn
  have L3 := looks_find (M := model prog w) X I hf
  have L4 : Looks (model prog w) s.heap (isInstance (.ref x) (.type "BaseException")) true := L0.andThen (looks_mroIn X hm)
  have G := PySem.F.attr_Exception.ga
  unfold getAttr getAttrBy
  refine wpAny_bind (wpAny_mkText ?_)
  obtain ⟨hp, g, d, tk, os⟩ := s
  refine wpAny_holding (wpAny_bind (L0.at (wpAny_bind (L1.at ?_))))
  show wpAny _ _ (getAttrByItsOwn _ _ _ _ _ _) _ _ _
  unfold getAttrByItsOwn hookBefore
  refine wpAny_bind (L2.at ?_)
  have hx0 : (expr && onTheHeap (Value.builtin "BaseException.__getattribute__")) = false := by cases expr <;> rfl
  unfold callGetattribute
  rw [hx0]
  refine wpAny_bind (wpAny_attempt (wpAny_holding ?_))
  show wpAny _ _ (boundAndCalled _ _ _) _ _ _
  unfold boundAndCalled
  rw [G.bind]
  refine wpAny_bind (wpAny_pure ?_)
  refine wpAny_call (codeAny_call_builtin G.plain PySem.F.entry_bexc_ga (@check_slot (model prog w) _ _ _ "BaseException.__getattribute__" "BaseException" "__getattribute__" (.ref x) [.str name tk] [] _ bga_kind bga_split L4 (PySem.F.args_bexc_ga _ _) ?_))
  unfold Builtin.«object.__getattribute__»
  refine wpAny_bind (wpAny_of_eq (a := (.ref x, [.str name tk])) (by first | rfl | kernel_rfl) ?_)
  dsimp only
  refine wpAny_bind (wpAny_of_eq (a := name) (by first | rfl | kernel_rfl) ?_)
  refine wpAny_bind (L0.at (wpAny_bind (L3.at ?_)))
  refine wpAny_pure ?_
  show wpAny _ _ (handedOut v) _ _ _
  rw [handedOut_of hh]; exact wpAny_pure h
end
section
variable {N : Type} {O : Om} {c : Cx N} {ρ : Loc N} {σ : Sto N} {Q X : V N → Sto N → Prop}
structure ExcGet (K : Frag) (C : Addr) : Prop where
  ga : findIn K (.ref C) "__getattribute__" = some (some (.builtin "BaseException.__getattribute__"))
  gn : findIn K (.ref C) "__getattr__" = some none
  be : mroIn K C (.type "BaseException") = some true
  dict : hasDictIn K C = true
theorem P1.excGet {C : Addr} {cf : Bool} {ns : List Str} {vs : List (V N)} {x : Str} {v : V N} {e : Bool} (ok : O.Ok) (hG : ExcGet O.K C) (ha : AttrOk O C x) (hg : fget ns vs x = some v) (hh : v.hands = true) (h : Q v σ) :
    P1 O c (fun o => getAttr o x e) (.exc (.ref C) cf ns vs) ρ σ Q X := fun A env T Φ s a hA hv => by
  have hv0 := hv
  unfold VRep at hv
  obtain ⟨b, rfl, (⟨rfl, rfl, _⟩ | ⟨d, es, n, hT, hd, hk, hvs⟩)⟩ := hv
  · simp [fget] at hg
  obtain ⟨r, hr, hn, _⟩ := ha.at'
  obtain ⟨u, hu, hvu⟩ := (KeysAre.get (x := x) hk hvs).1 v hg
  obtain ⟨ob, ho, us, rfl, _⟩ := hA.rep.trk b _ hT
  have I : InstAt s.heap b { cls := .ref C, dict := some d, data := .fields us } C (some (dictOf es n)) := ⟨ho, rfl, rfl, hA.fro hd⟩
  refine exc_get (hA.K ok) I hG.ga hG.gn hG.be (findObj_own hG.dict hr hn ((lookIn_dict x es n).trans hu)) (handed_of hvu fun w q => ?_) (.mk' (hA.toks _) (.refl _ _) hvu h)
  subst q; exact hh
end
end Mine
namespace Mine
section
variable {N : Type} {O : Om}
noncomputable def baseT (O : Om) : TM N := fun a => open Classical in match O.B.get? a with
  | some o => some (.fro o)
  | none => if a ∈ O.tabs then some .tab else none
theorem baseT_at {a : Addr} {o : Obj} (h : O.B.get? a = some o) : baseT (N := N) O a = some (.fro o) := by unfold baseT; rw [h]
theorem baseT_tab {a : Addr} (h : O.B.get? a = none) (ht : a ∈ O.tabs) : baseT (N := N) O a = some .tab := by unfold baseT; rw [h]; simp [ht]
theorem baseT_none {a : Addr} (h : O.B.get? a = none) (ht : a ∉ O.tabs) : baseT (N := N) O a = none := by unfold baseT; rw [h]; simp [ht]
theorem base_rep {h : Heap} (hk : ∀ b o, O.B.get? b = some o → h.get? b = some o) (ht : ∀ b ∈ O.tabs, O.B.get? b = none ∧ h.get? b = some (tabObj #[])) : Rep O (baseT (N := N) O) (fun _ => none) (fun _ => none) h where
  trk := fun a t e => by
    cases q : O.B.get? a with
    | some o => rw [baseT_at q] at e; cases e; exact ⟨o, hk a o q, rfl⟩
    | none =>
      by_cases m : a ∈ O.tabs
      · rw [baseT_tab q m] at e; cases e
        exact ⟨_, (ht a m).2, #[], rfl, trivial, fun pos cv e => by cases e⟩
      · rw [baseT_none q m] at e; cases e
  frs := fun a o e => by cases e
  own := fun n o e => by cases e
  inj := fun n a b e _ => by
    unfold baseT at e
    split at e
    · cases e
    · split at e <;> cases e
  pin := fun n a b e _ => by
    unfold baseT at e
    split at e
    · cases e
    · split at e <;> cases e
  base := fun b o e => baseT_at e
  tabs := fun b hb => baseT_tab (ht b hb).1 hb
  noted := fun b a e => by
    unfold baseT at e
    split at e
    · cases e
    · split at e <;> cases e
theorem entry_at {name x0 : Str} {scope : Scope} {L fa cdA P l : Addr} {m cm : Str → Option Value} {nm : Str → Option N} {s : Shared}
    (F : Fr O.B L s.heap m) (hx : m x0 = some (.ref l)) (htab : ∀ b ∈ O.tabs, O.B.get? b = none ∧ s.heap.get? b = some (tabObj #[]) ∧ b < L) (hcd : CodeHd O.B cdA P) (hP : P ∈ O.tabs)
    (hcl : Cl L (cellsFrom (L + 1) scope.names []) s.heap cm) (hcm : ∀ x, scope.names.lookup x = some .cell → cm x = none) (hk : scope.kind = .function) (hn : (scope.names.map (·.1)).Nodup) (hco : scope.isCoroutine = false)
    (hnm : ((cellNames scope.names).filterMap nm).Nodup) (hx0 : scope.names.lookup x0 = some .local) (hfree : capNames scope.names = []) :
    ∃ T : TM N, At O ⟨⟨scope, name ++ (".<locals>." : Str), true⟩, kapOf scope nm [(x0, .st (.ref l))] [], 240, .no⟩ (callerA.deeper (envOfC name scope L fa (.ref cdA))) (envOfC name scope L fa (.ref cdA)) T (fun _ => none)
      (locOf scope [(x0, .st (.ref l))]) (cellsSto nm [(x0, .st (.ref l))] (cellNames scope.names) (fun _ => none)) s := by
  have R₀ : Rep O (baseT (N := N) O) (fun _ => none) (fun _ => none) s.heap := base_rep F.keep fun b hb => ⟨(htab b hb).1, (htab b hb).2.1⟩
  have above : ∀ c, L ≤ c → baseT (N := N) O c = none := fun c hc => by
    refine baseT_none ?_ fun hm => absurd (htab c hm).2.2 (Nat.not_lt.mpr hc)
    cases q : O.B.get? c with
    | none => rfl
    | some o => exact absurd (Nat.lt_of_lt_of_le (Heap.lt_size q) (Nat.le_trans F.above hc)) (Nat.lt_irrefl _)
  have isc : ∀ x cc, (x, cc) ∈ cellsFrom (L + 1) scope.names [] → scope.names.lookup x = some .cell := fun x cc hmem => by
    have : x ∈ cellNames scope.names := by rw [← cellsFrom_fst _ (L + 1)]; exact List.mem_map.mpr ⟨_, hmem, rfl⟩
    obtain ⟨j, hj⟩ := List.getElem?_of_mem (mem_cellNames.mp this)
    exact nodup_lookup hn hj
  have bdn : ∀ x, scope.names.lookup x = some .cell → ([(x0, V.st (.ref l))] : List (Str × V N)).lookup x = none := fun x hc => by
    rw [List.lookup_cons]
    cases q : x == x0 with
    | false => rfl
    | true => rw [beq_iff_eq.mp q, hx0] at hc; cases hc
  have lkc : ∀ x cc, (x, cc) ∈ cellsFrom (L + 1) scope.names [] → (cellsFrom (L + 1) scope.names []).lookup x = some cc := fun x cc hm => by
    have hnd := cellNames_nodup hn
    rw [← cellsFrom_fst _ (L + 1)] at hnd
    exact lookup_of_mem_nodup hnd hm
  obtain ⟨T', le, R', off, on⟩ := name_cells (nm := nm) (bd := [(x0, V.st (.ref l))]) (cm := fun x => if x = x0 then some (.ref l) else none) R₀ (fun x v e => by
    rw [List.lookup_cons] at e
    cases q : x == x0 with
    | false => rw [q] at e; cases e
    | true => rw [q] at e; cases e; exact ⟨.ref l, by simp [beq_iff_eq.mp q], by unfold VRep; rfl⟩) (fun x e => by
    rw [List.lookup_cons] at e
    cases q : x == x0 with
    | false => simp [beq_eq_false_iff_ne.mp q]
    | true => rw [q] at e; cases e) (cellsFrom (L + 1) scope.names []) hcl.apart (fun x cc hmem => by
    refine ⟨above cc (Nat.le_of_lt (hcl.above _ _ hmem)), rfl, ?_⟩
    have h1 := hcl.cell _ _ (lkc x cc hmem)
    rw [hcm x (isc x cc hmem)] at h1
    have h2 := bdn x (isc x cc hmem)
    have h3 : x ≠ x0 := fun e => by rw [e, List.lookup_cons] at h2; simp at h2
    simpa [h3] using h1) (by rw [cellsFrom_fst]; exact hnm) (fun _ _ => rfl)
  rw [cellsFrom_fst] at R'
  refine ⟨T', R', ⟨?_, rfl, m, F.ns, fun i v e => ?_⟩, ?_⟩
  · show T' L = none
    rw [off _ fun p hp e => absurd (hcl.above p.1 p.2 hp) (by rw [e]; exact Nat.lt_irrefl _)]
    exact above L (Nat.le_refl _)
  · unfold locOf at e
    cases q : scope.names[i]? with
    | none => rw [q] at e; cases e
    | some p =>
      obtain ⟨x, k⟩ := p
      rw [q] at e
      cases k with
      | «local» =>
        dsimp only at e
        rw [List.lookup_cons] at e
        cases q2 : x == x0 with
        | false => rw [q2] at e; cases e
        | true =>
          rw [q2] at e; cases e
          exact ⟨x, .ref l, q, by rw [beq_iff_eq.mp q2]; exact hx, by unfold VRep; rfl⟩
      | _ => cases e
  · refine ⟨rfl, hk, hn, hco, rfl, rfl, rfl, fun i v e => ?_, fun _ => ?_, ⟨_, [], rfl, rfl, fun e he => ?_⟩, rfl, (show callerA.depth + 1 + 240 < recursionLimit by decide +kernel), (show callerA.units + 3 + 40 * 240 < cLine by decide +kernel)⟩
    · show ∃ x k a, FC.at ⟨scope, name ++ (".<locals>." : Str), true⟩ i x k ∧ (k = NameKind.cell ∨ k = NameKind.free) ∧ (cellsFrom (L + 1) scope.names []).lookup x = some a ∧ CellOk O T' v a
      have e : kapOf scope nm [(x0, .st (.ref l))] [] i = some v := e
      unfold kapOf at e
      cases q : scope.names[i]? with
      | none => rw [q] at e; cases e
      | some p =>
        obtain ⟨x, k⟩ := p
        rw [q] at e
        cases k with
        | cell =>
          have hxm : x ∈ cellNames scope.names := mem_cellNames.mpr (List.mem_of_getElem? q)
          obtain ⟨cc, hcc⟩ := Option.isSome_iff_exists.mp (lookup_isSome (l := cellsFrom (L + 1) scope.names []) (x := x) (by rw [cellsFrom_fst]; exact hxm))
          refine ⟨x, .cell, cc, q, .inl rfl, hcc, ?_⟩
          obtain ⟨o1, o2⟩ := on x cc (mem_of_lookup hcc)
          dsimp only at e
          cases qn : nm x with
          | some n => rw [qn] at e; cases e; exact .inl ⟨n, rfl, o1 n qn⟩
          | none => rw [qn, bdn x (nodup_lookup hn q)] at e; cases e
        | free => rw [hfree] at e; cases e
        | _ => cases e
    · obtain ⟨o, vs, file, tf, flags, tg, inF, text, tt, g1, g2⟩ := hcd
      exact ⟨cdA, P, o, vs, file, tf, flags, tg, inF, text, tt, rfl, le _ _ (baseT_at g1), le _ _ (baseT_tab (htab P hP).1 hP), g2⟩
    · rw [List.mem_singleton.mp he]
      exact ⟨by show scope.kind ≠ _; rw [hk]; decide, L, rfl, .inl rfl⟩
theorem grown_all {T : TM N} {σ : Sto N} {h : Heap} {Φ : Addr → Option Obj} (R : Rep O T Φ σ h) : ∀ {l : List (Addr × Addr)}, (∀ q ∈ l, q.2 ∈ O.tabs) → GrownAll l h
  | [], _ => trivial
  | q :: r, hq => by
    refine ⟨?_, grown_all R fun x hx => hq x (.tail _ hx)⟩
    obtain ⟨ob, h1, ps, rfl, _⟩ := R.trk q.2 .tab (R.tabs q.2 (hq q (.head _)))
    exact ⟨ps, h1⟩
theorem om_ok {K : Frag} {B : Heap} {p : Program} {loose : List Str} {mean : ExcName → Option Value} {mg mb : Str → Option Value} (hK : O.K.In O.B) (ht : Top O.p O.loose O.mean O.mg O.mb O.B) (hs : ∃ o, O.B.get? sysModules = some o) : O.Ok := ⟨hK, ht, hs⟩
/-- a law's text answers True -/
theorem law_end {c : Cx N} {A : Around} {env : Env} {T : TM N} {ρ : Loc N} {σ : Sto N} {s : Shared} {ms : List MS} {body : List PySem.Stmt} {Q : Flow → Shared → Prop} {E : Value → Shared → Prop} (hb : CSs O c.fc body ms) (hA : At O c A env T (fun _ => none) ρ σ s)
    (h : AX O c ms ρ σ (fun af _ _ => af = .ret (.bool true)) (fun _ _ _ => False)) (hQ : ∀ (T' : TM N) σ' s', Rep O T' (fun _ => none) σ' s'.heap → s'.gens = s.gens → s'.os = s.os → Q (.ret (.bool true)) s') :
    wpAny (model O.prog O.w) A (execs body env) Q E s := by
  refine wpAny_mono (h A env T _ s body hb hA) (fun f s' hf => ?_) fun y s' hy => ?_
  · obtain ⟨T', ρ', σ', af, le, hA', hg, ho, hr, rfl⟩ := hf
    obtain ⟨x, rfl, hx⟩ := hr
    unfold VRep at hx
    subst hx
    exact hQ T' σ' s' hA'.rep hg ho
  · obtain ⟨_, _, _, _, _, _, _, _, _, _, hF⟩ := hy
    exact hF.elim
end
end Mine
namespace Mine
/-! the functions of a law's fragment, checked by evaluation -/
inductive DV where | none | bool (b : Bool) | int (i : Int) | str (s : Str) | tup0
def DV.v {N : Type} : DV → V N
  | .none => .none | .bool b => .bool b | .int i => .int i | .str s => .str s | .tup0 => .tup []
def DV.ok (K : Frag) : DV → Value → Bool
  | .none, .none => true
  | .bool b, .bool c => b == c
  | .int i, .int j _ => i == j
  | .str s, .str t _ => s == t
  | .tup0, .ref a => (match K.lookup a with | some ⟨.type t, Option.none, .seq xs _, sl⟩ => t == "tuple" && xs.isEmpty && sl.isEmpty | _ => false)
  | _, _ => false
def DV.oks (K : Frag) : List DV → List Value → Bool
  | [], [] => true
  | d :: ds, v :: vs => d.ok K v && DV.oks K ds vs
  | _, _ => false
def rowAt (K : Frag) (f : Addr) : CodeRow := match K.lookup f with
  | some ⟨_, _, .func fd, _⟩ => ⟨fd.name, fd.qualname, fd.params, fd.body, fd.scope⟩
  | _ => ⟨"", "", default, .stmts [], ⟨.function, [], false, false, []⟩⟩
def dfB (K : Frag) (ds : List DV) : Value → Bool
  | .none => ds.isEmpty
  | .ref a => (match K.lookup a with | some ⟨_, _, .seq xs _, _⟩ => DV.oks K ds xs.toList | _ => false)
  | _ => false
def nestB (K : Frag) (tabs : List Addr) : Value → Bool
  | .ref c => (match K.lookup c with
    | some ⟨_, _, .fields vs, _⟩ => (match (vs[11]? : Option Value) with | some (.ref P) => tabs.contains P && codeHdIn K c P | _ => false)
    | _ => false)
  | _ => false
def rowB (r : CodeRow) (ns : List Str) : Bool :=
  r.params.posonlyargs.isEmpty && decide (r.params.args.map (·.arg) = ns) && r.params.kwonlyargs.isEmpty && r.params.vararg.isNone && r.params.kwarg.isNone && decide (r.scope.kind = .function) && !r.scope.isGenerator && !r.scope.isCoroutine &&
  decide ((r.scope.names.map (·.1)).Nodup) && decide ns.Nodup && ns.all fun n => decide (r.scope.names.lookup n = some .local) || decide (r.scope.names.lookup n = some .cell)
theorem rowB_ok {r : CodeRow} {ns : List Str} (h : rowB r ns = true) : RowOk r ns := by
  unfold rowB at h
  simp only [Bool.and_eq_true, decide_eq_true_eq, List.isEmpty_iff, Option.isNone_iff_eq_none, Bool.not_eq_true', List.all_eq_true, Bool.or_eq_true] at h
  obtain ⟨⟨⟨⟨⟨⟨⟨⟨⟨⟨h1, h2⟩, h3⟩, h4⟩, h5⟩, h6⟩, h7⟩, h8⟩, h9⟩, h10⟩, h11⟩ := h
  exact ⟨h1, h2, h3, h4, h5, h6, h7, h8, h9, h10, h11⟩
def fnB (K : Frag) (tabs : List Addr) (f : Addr) (nest : Bool) (ds : List DV) : Bool := match K.lookup f with
  | some ⟨_, _, .func fd, _⟩ => decide (fd.globals = mainGlobals) && decide (fd.builtins = builtinsNs) && fd.closure.isEmpty && codeIn K fd.code fd.qualname && dfB K ds fd.defaults && (!nest || nestB K tabs fd.code) && (capNames fd.scope.names).isEmpty
  | _ => false
section
variable {N : Type} {O : Om}
theorem dv_ok {T : TM N} (hb : ∀ b o, O.K.lookup b = some o → T b = some (.fro o)) : ∀ {d : DV} {v : Value}, d.ok O.K v = true → VRep O T (d.v : V N) v := fun {d v} h => by
  unfold DV.ok at h
  split at h
  · unfold DV.v VRep; rfl
  · unfold DV.v VRep; rw [beq_iff_eq.mp h]
  · unfold DV.v VRep; rw [beq_iff_eq.mp h]; exact ⟨_, rfl⟩
  · unfold DV.v VRep; rw [beq_iff_eq.mp h]; exact ⟨_, rfl⟩
  · rename_i a
    split at h
    · rename_i t xs n sl ho
      simp only [Bool.and_eq_true, beq_iff_eq, Array.isEmpty_iff] at h
      obtain ⟨⟨rfl, rfl⟩, rfl⟩ := h
      unfold DV.v VRep
      exact ⟨a, #[], n, rfl, hb _ _ ho, .nil⟩
    · cases h
  · cases h
theorem dvs_ok {T : TM N} (hb : ∀ b o, O.K.lookup b = some o → T b = some (.fro o)) : ∀ {ds : List DV} {vs : List Value}, DV.oks O.K ds vs = true → VReps O T (ds.map DV.v : List (V N)) vs
  | [], [], _ => .nil
  | d :: ds, v :: vs, h => by
    unfold DV.oks at h
    rw [Bool.and_eq_true] at h
    exact .cons (dv_ok hb h.1) (dvs_ok hb h.2)
  | [], _ :: _, h => by cases h
  | _ :: _, [], h => by cases h
theorem fnB_ok {f : Addr} {nest : Bool} {ds : List DV} (ok : O.Ok) (h : fnB O.K O.tabs f nest ds = true) : FnSt O f (rowAt O.K f) nest (ds.map DV.v : List (V N)) := by
  unfold fnB at h
  split at h
  · rename_i c dd fd sl ho
    simp only [Bool.and_eq_true, decide_eq_true_eq, List.isEmpty_iff, Bool.or_eq_true, Bool.not_eq_true'] at h
    obtain ⟨⟨⟨⟨⟨⟨h1, h2⟩, h3⟩, h4⟩, h5⟩, h6⟩, h7⟩ := h
    have hr : rowAt O.K f = ⟨fd.name, fd.qualname, fd.params, fd.body, fd.scope⟩ := by unfold rowAt; rw [ho]
    rw [hr]
    refine ⟨⟨_, fd, ho, rfl, rfl, rfl, rfl, rfl, h1, h2, h3, h4, ?_, fun hn => ?_⟩, h7⟩
    · cases hd : fd.defaults with
      | none => rw [hd] at h5; simp [dfB] at h5; exact .inl ⟨rfl, by rw [h5]; rfl⟩
      | ref a =>
        rw [hd] at h5
        unfold dfB at h5
        simp only at h5
        split at h5
        · rename_i xs n sl' ho'
          refine .inr ⟨a, _, n, xs.toList, rfl, ho', by simp, fun T hb => dvs_ok (fun b o e => hb b o (ok.K b o e)) h5⟩
        · cases h5
      | _ => rw [hd] at h5; simp [dfB] at h5
    · rcases h6 with h6 | h6
      · rw [hn] at h6; cases h6
      · unfold nestB at h6
        split at h6
        · rename_i c0 hc0
          split at h6
          · rename_i c' dd' vs sl' hoc
            split at h6
            · rename_i P h11
              rw [Bool.and_eq_true] at h6
              obtain ⟨h6a, h6b⟩ := h6
              unfold codeHdIn at h6b
              rw [hoc] at h6b
              split at h6b
              · rename_i vs2 sl2 heq
                cases heq
                simp only [Bool.and_eq_true] at h6b
                obtain ⟨⟨⟨⟨⟨e1, e2⟩, e3⟩, e4⟩, e5⟩, e6⟩ := h6b
                have hne : c0 ≠ P := fun q => by rw [q] at e6; simp at e6
                split at e2
                · rename_i f' tf h18
                  split at e3
                  · rename_i fl tg h7'
                    split at e4
                    · rename_i b h9
                      split at e5
                      · rename_i n tt h10
                        exact ⟨c0, P, _, vs, f', tf, fl, tg, b, n, tt, hc0, hoc, by simpa using h6a, rfl, rfl, h11, by rw [Array.getD_eq_getD_getElem?, h11]; rfl, h18, h7', h9, h10, hne⟩
                      · cases e5
                    · cases e4
                  · cases e3
                · cases e2
              · cases h6b
            · cases h6
          · cases h6
        · cases h6
  · cases h
end
end Mine
namespace Mine
structure FnE where
  addr : Addr
  nest : Bool
  ns : List Str
  ds : List DV
  kinds : List NameKind
  ms : List MS
def namesB (r : CodeRow) (ns : List Str) (kinds : List NameKind) : Bool := decide (r.scope.names.map (·.2) = kinds) && decide ((r.scope.names.take ns.length).map (·.1) = ns)
def FnE.text (K : Frag) (e : FnE) : TextOf := ⟨(rowAt K e.addr).scope, (rowAt K e.addr).qual ++ (".<locals>." : Str), e.nest, (rowAt K e.addr).body, .inl e.ms⟩
def FnE.chk (K : Frag) (tabs : List Addr) (e : FnE) : Bool := fnB K tabs e.addr e.nest e.ds && rowB (rowAt K e.addr) e.ns && namesB (rowAt K e.addr) e.ns e.kinds
structure NestE where
  key : Nat
  ns : List Str
  b : MB
def NestE.text (l : CR) (e : NestE) : TextOf := match codeOfRows l e.key with
  | some r => ⟨r.scope, r.qual ++ (".<locals>." : Str), true, r.body, e.b⟩
  | none => ⟨⟨.function, [], false, false, []⟩, "", true, .stmts [], e.b⟩
def NestE.chk (l l' : CR) (e : NestE) : Bool := match codeOfRows l e.key, codeOfRows l' e.key with
  | some r, some _ => rowB r e.ns
  | _, _ => false
def globB (K : Frag) (G : List (Str × Value)) : Bool := G.all fun p => match nsIn K mainGlobals p.1 with
  | some (some v) => decide (v = p.2)
  | some none => decide (bootBuiltins p.1 = some p.2) && p.1 != ("__name__" : Str)
  | none => false
section
variable {N : Type} {O : Om}
theorem glob_ok {G : List (Str × Value)} (ok : O.Ok) (h : globB O.K G = true) : ∀ x v, G.lookup x = some v → globOf O x = some v := fun x v hx => by
  have hm : (x, v) ∈ G := by
    induction G with
    | nil => cases hx
    | cons p r ih =>
      rw [List.lookup_cons] at hx
      cases q : x == p.1 with
      | true => rw [q] at hx; cases hx; rw [beq_iff_eq.mp q]; exact .head _
      | false => rw [q] at hx; exact .tail _ (ih (by unfold globB at h ⊢; simp only [List.all_cons, Bool.and_eq_true] at h; exact h.2) hx)
  have := List.all_eq_true.mp h _ hm
  dsimp only at this
  split at this
  · rename_i u e
    rw [decide_eq_true_eq] at this
    subst this
    unfold globOf
    rw [mg_of ok.K ok.top.g e]
  · rename_i e
    rw [Bool.and_eq_true, decide_eq_true_eq] at this
    unfold globOf
    rw [ns_none_of ok.K ok.top.g e]
    show O.mb x = some v
    rw [ok.top.builtins x (by simpa using this.2)]
    exact this.1
  · cases this
/-- all that a call of a function of the fragment asks of it -/
structure FnOk (O : Om) (N : Type) (e : FnE) : Prop where
  st : FnSt O e.addr (rowAt O.K e.addr) e.nest (e.ds.map DV.v : List (V N))
  row : RowOk (rowAt O.K e.addr) e.ns
  names : (rowAt O.K e.addr).scope.names.map (·.2) = e.kinds ∧ ((rowAt O.K e.addr).scope.names.take e.ns.length).map (·.1) = e.ns
  cb : CB O ⟨(rowAt O.K e.addr).scope, (rowAt O.K e.addr).qual ++ (".<locals>." : Str), e.nest⟩ (rowAt O.K e.addr).body (.inl e.ms)
theorem chkB_cb {G : List (Str × Value)} {t : TextOf} (hG : ∀ x v, G.lookup x = some v → globOf O x = some v) (h : Okc O (chkB G t)) : CB O ⟨t.scope, t.qual, t.nest⟩ t.body t.b := by
  unfold chkB at h
  split at h
  · rename_i b hb
    split at h
    · rename_i ms hm
      rw [hb, hm]
      exact chkX_ok hG h
    · exact (okN h).elim
  · rename_i e hb
    split at h
    · exact (okN h).elim
    · rename_i m hm
      rw [hb, hm]
      exact chkE_ok hG _ _ _ _ h
theorem fn_all {G : List (Str × Value)} {FT : List FnE} {NT : List NestE} {lA l : CR} (ok : O.Ok) (hg : globB O.K G = true) (hc : FT.all (FnE.chk O.K O.tabs) = true) (hx : chkAll G (FT.map (FnE.text O.K) ++ NT.map (NestE.text lA)) = some l) (hn : decide ((l.map fun z => codeKey z.1 z.2.1).Nodup) = true) (h1 : O.code = codeOfRows l) (h2 : O.qualAt = qualOfRows l) :
    (∀ e ∈ FT, FnOk O N e) ∧ ∀ e ∈ NT, Okc O (chkB G (NestE.text lA e)) := by
  have hO := okc_rows hx (of_decide_eq_true hn) h1 h2
  have hG := glob_ok ok hg
  refine ⟨fun e he => ?_, fun e he => chkAll_mem (List.mem_append_right _ (List.mem_map.mpr ⟨e, he, rfl⟩)) hO⟩
  have := List.all_eq_true.mp hc e he
  unfold FnE.chk at this
  rw [Bool.and_eq_true, Bool.and_eq_true] at this
  exact ⟨fnB_ok ok this.1.1, rowB_ok this.1.2, (by have := this.2; unfold namesB at this; rwa [Bool.and_eq_true, decide_eq_true_eq, decide_eq_true_eq] at this), chkB_cb (t := FnE.text O.K e) hG (chkAll_mem (List.mem_append_left _ (List.mem_map.mpr ⟨e, he, rfl⟩)) hO)⟩
structure NestOk (O : Om) (e : NestE) (r : CodeRow) : Prop where
  code : O.code e.key = some r
  row : RowOk r e.ns
  cb : CB O ⟨r.scope, r.qual ++ (".<locals>." : Str), true⟩ r.body e.b
theorem nest_ok {G : List (Str × Value)} {lA l : CR} {e : NestE} {r : CodeRow} (ok : O.Ok) (hg : globB O.K G = true) (h : Okc O (chkB G (NestE.text lA e))) (h1 : O.code = codeOfRows l) (hA : codeOfRows lA e.key = some r) (hB : codeOfRows l e.key = some r) (hr : rowB r e.ns = true) : NestOk O e r := by
  refine ⟨by rw [h1]; exact hB, rowB_ok hr, ?_⟩
  have := chkB_cb (t := NestE.text lA e) (glob_ok ok hg) h
  unfold NestE.text at this
  rw [hA] at this
  exact this
/-! classes -/
def isFnd (x : Option (Option Value)) (v : Option Value) : Bool := decide (x = some v)
def clsB (K : Frag) (C : Addr) : Bool := isFnd (findIn K (.ref C) "__getattribute__") (some (.builtin "object.__getattribute__")) && isFnd (findIn K (.ref C) "__getattr__") none && isFnd (findIn K (.ref C) "__setattr__") (some (.builtin "object.__setattr__")) && plainOver K C && hasDictIn K C
theorem clsB_ok {C : Addr} (h : clsB O.K C = true) : ClsOk O C := by
  unfold clsB isFnd at h
  simp only [Bool.and_eq_true, decide_eq_true_eq] at h
  exact ⟨h.1.1.1.1, h.1.1.1.2, h.1.1.2, h.1.2, h.2⟩
def attrB (K : Frag) (C : Addr) (x : Str) : Bool := match findIn K (.ref C) x with
  | some r => noGet K r && isFnd (takerIn K C x) none
  | none => false
theorem attrB_ok {C : Addr} {x : Str} (h : attrB O.K C x = true) : AttrOk O C x := by
  unfold attrB at h
  split at h
  · rename_i r e
    rw [Bool.and_eq_true] at h
    exact ⟨r, e, h.1, by have := h.2; unfold isFnd at this; exact of_decide_eq_true this⟩
  · cases h
def callB (K : Frag) (C : Addr) : Bool := match K.lookup C with
  | some ⟨_, _, .cls _, _⟩ => (specialIn K (.ref C) "__call__").isSome
  | _ => false
theorem callB_ok {C : Addr} (h : callB O.K C = true) : ∃ o cd r, O.K.lookup C = some o ∧ o.data = .cls cd ∧ specialIn O.K (.ref C) "__call__" = some r := by
  unfold callB at h
  split at h
  · rename_i a b cd sl e
    obtain ⟨r, hr⟩ := Option.isSome_iff_exists.mp h
    exact ⟨_, cd, r, e, rfl, hr⟩
  · cases h
def mkB (K : Frag) (C f : Addr) : Bool := makesIn K C && isFnd (findIn K (.ref C) "__init__") (some (.ref f)) && decide (typeIn K (.ref f) = some (.type "function")) && callB K C
theorem mkB_ok {C f : Addr} (h : mkB O.K C f = true) : ClsMk O C f := by
  unfold mkB isFnd at h
  simp only [Bool.and_eq_true, decide_eq_true_eq] at h
  exact ⟨h.1.1.1, h.1.1.2, h.1.2, callB_ok h.2⟩
end
end Mine
namespace Mine
theorem cellsFrom_apart : ∀ (names : List (Str × NameKind)) (n lo : Nat) (acc : List (Str × Addr)), lo < n → acc.Pairwise (fun x y => x.2 ≠ y.2) → (∀ p ∈ acc, lo < p.2 ∧ p.2 < n) → (cellsFrom n names acc).Pairwise (fun x y => x.2 ≠ y.2) ∧ ∀ p ∈ cellsFrom n names acc, lo < p.2
  | [], _, _, _, _, h, g => ⟨h, fun p hp => (g p hp).1⟩
  | (x, k) :: r, n, lo, acc, hn, h, g => by
    unfold cellsFrom
    split
    · refine cellsFrom_apart r (n + 1) lo _ (by omega) (List.pairwise_cons.mpr ⟨fun p hp => ?_, h⟩) fun p hp => ?_
      · exact Nat.ne_of_gt (g p hp).2
      · rcases List.mem_cons.mp hp with rfl | hp
        · exact ⟨hn, Nat.lt_succ_self _⟩
        · exact ⟨(g p hp).1, Nat.lt_succ_of_lt (g p hp).2⟩
    · exact cellsFrom_apart r n lo acc hn h g
theorem cl_of {g h : Heap} {L : Addr} {names : List (Str × NameKind)} {cm : Str → Option Value} {cells rest : List (Addr × Obj)} (N : News g L h (cells ++ rest)) (X : CellsAre cm (cellsFrom (L + 1) names []) cells) : Cl L (cellsFrom (L + 1) names []) h cm :=
  Cl.of_news (own := []) (cells := cells) (fun p hp => N p (List.mem_append_left _ hp)) X (cellsFrom_apart names (L + 1) L [] (Nat.lt_succ_self _) .nil (fun _ h => by cases h)).1 fun n c hm => (cellsFrom_apart names (L + 1) L [] (Nat.lt_succ_self _) .nil (fun _ h => by cases h)).2 (n, c) hm
section
variable {N : Type} {O : Om}
/-- a law's walk, from the head's goal -/
theorem law_fin {s : Shared} {L fa cdA P l : Addr} {m cm : Str → Option Value} {nm : Str → Option N} {e : FnE} {name : Str} {scope : Scope} {body : List PySem.Stmt} {news : List (Addr × Obj)} {tabs : List (Addr × Addr)} {Q : Flow → Shared → Prop} {E : Value → Shared → Prop}
    (hF : FnOk O N e) (hn : e.nest = true) (hb : (rowAt O.K e.addr).body = .stmts body) (hsc : (rowAt O.K e.addr).scope = scope) (hq : (rowAt O.K e.addr).qual = name) (hx : m "script" = some (.ref l)) (hx0 : scope.names.lookup ("script" : Str) = some .local)
    (F : Fr O.B L s.heap m) (htab : O.tabs = tabs.map (·.2)) (hnews : ∀ b ∈ O.tabs, (b, tabObj #[]) ∈ news) (Nw : News O.B L s.heap news) (hlt : ∀ b ∈ O.tabs, b < L) (hcd : CodeHd O.B cdA P) (hP : P ∈ O.tabs)
    (hcl : Cl L (cellsFrom (L + 1) scope.names []) s.heap cm) (hcm : ∀ x, scope.names.lookup x = some .cell → cm x = none) (hnm : ((cellNames scope.names).filterMap nm).Nodup)
    (h : AX O ⟨⟨scope, name ++ (".<locals>." : Str), true⟩, kapOf scope nm [("script", .st (.ref l))] [], 240, .no⟩ e.ms (locOf scope [("script", .st (.ref l))]) (cellsSto nm [("script", .st (.ref l))] (cellNames scope.names) (fun _ => none)) (fun af _ _ => af = .ret (.bool true)) (fun _ _ _ => False))
    (hQ : ∀ s', (∀ b o, O.B.get? b = some o → s'.heap.get? b = some o) → GrownAll tabs s'.heap → s'.gens = s.gens → s'.os = s.os → Q (.ret (.bool true)) s') :
    wpAny (model O.prog O.w) (callerA.deeper (envOfC name scope L fa (.ref cdA))) (execs body (envOfC name scope L fa (.ref cdA))) Q E s := by
  obtain ⟨T, hA⟩ := entry_at (O := O) (N := N) (nm := nm) (fa := fa) (name := name) F hx (fun b hb => ⟨(Nw _ (hnews b hb)).2.2, (Nw _ (hnews b hb)).1, hlt b hb⟩) hcd hP hcl hcm (hsc ▸ hF.row.kind) (hsc ▸ hF.row.nodup) (hsc ▸ hF.row.co) hnm hx0 (hsc ▸ hF.st.free)
  have hcb := hF.cb
  rw [hb, hsc, hq, hn] at hcb
  have hcb : CSs O ⟨scope, name ++ (".<locals>." : Str), true⟩ body e.ms := hcb
  refine law_end (ms := e.ms) hcb hA h fun T' σ' s' R hg ho => hQ s' (fun b o hbo => ?_) (grown_all R fun q hq => by rw [htab]; exact List.mem_map.mpr ⟨q, hq, rfl⟩) hg ho
  obtain ⟨ob, p, q⟩ := R.trk b _ (R.base b o hbo)
  rw [← show ob = o from q]; exact p
/-- the answer, as the claim asks for it -/
theorem good_true {c : ClaimW} {cl : Str → Option Addr} {mean : ExcName → Option Value} {args : List WData} {s₁ s' : Shared} (hk : ∀ b o, s₁.heap.get? b = some o → s'.heap.get? b = some o) (hg : s'.gens = #[]) (hos : s'.os = s₁.os) (hn : ∀ cls, c.raises args cls = false) (hp : c.post args (.bool true) args = true) :
    GoodW c cl mean args s₁ (.ok (.ret (.bool true))) s' :=
  ⟨.inl ⟨_, _, [], rfl, hn, .bool true, hp, unshared_nil⟩, hk, hos, hg⟩
end
end Mine
namespace Mine
def locN {N : Type} (kinds : List NameKind) (bv : List (V N)) : Loc N := fun i => match kinds[i]? with
  | some .local => bv[i]?
  | _ => none
def kapN {N : Type} (kinds : List NameKind) (bv : List (V N)) : Nat → Option (V N) := fun i => match kinds[i]? with
  | some .cell => (match bv[i]? with | some v => if v.isCel then none else some v | none => none)
  | _ => none
section
variable {N : Type} {O : Om} {c : Cx N} {ρ : Loc N} {σ : Sto N} {Q X : V N → Sto N → Prop}
theorem zip_lookup {α : Type} : ∀ {ns : List Str} {bv : List α} {i : Nat} {x : Str}, ns.Nodup → ns[i]? = some x → (ns.zip bv).lookup x = bv[i]?
  | [], _, _, _, _, h => by simp at h
  | n :: ns, [], i, x, _, h => by simp
  | n :: ns, v :: vs, 0, x, _, h => by simp at h; subst h; simp
  | n :: ns, v :: vs, i + 1, x, hn, h => by
    have h : ns[i]? = some x := by simpa using h
    rw [List.nodup_cons] at hn
    have hne : x ≠ n := fun e => hn.1 (e ▸ List.mem_of_getElem? h)
    rw [List.zip_cons_cons, List.lookup_cons, beq_eq_false_iff_ne.mpr hne]
    simpa using zip_lookup hn.2 h
theorem zip_lookup_none {α : Type} : ∀ {ns : List Str} {bv : List α} {x : Str}, x ∉ ns → (ns.zip bv).lookup x = none
  | [], _, _, _ => by simp
  | n :: ns, [], x, _ => by simp
  | n :: ns, v :: vs, x, h => by
    rw [List.zip_cons_cons, List.lookup_cons, beq_eq_false_iff_ne.mpr (fun e => h (by rw [e]; exact .head _))]
    exact zip_lookup_none fun hm => h (.tail _ hm)
theorem bd_at {α : Type} {names : List (Str × NameKind)} {ns : List Str} {bv : List α} (hn : (names.map (·.1)).Nodup) (ht : (names.take ns.length).map (·.1) = ns) (hl : bv.length = ns.length) {i : Nat} {x : Str} {k : NameKind} (hi : names[i]? = some (x, k)) : (ns.zip bv).lookup x = bv[i]? := by
  have hnsd : ns.Nodup := by rw [← ht, List.map_take]; exact hn.sublist (List.take_sublist _ _)
  by_cases h : i < ns.length
  · have : ns[i]? = some x := by
      rw [← ht, List.getElem?_map, List.getElem?_take_of_lt h, hi]; rfl
    exact zip_lookup hnsd this
  · have h1 : x ∉ ns := fun hm => by
      obtain ⟨j, hj⟩ := List.getElem?_of_mem hm
      have hjl : j < ns.length := (List.getElem?_eq_some_iff.mp hj).1
      rw [← ht, List.getElem?_map, List.getElem?_take_of_lt hjl] at hj
      cases q : names[j]? with
      | none => rw [q] at hj; cases hj
      | some p =>
        obtain ⟨y, k'⟩ := p
        rw [q] at hj
        have hj : y = x := by simpa using hj
        subst hj
        exact h (nodup_at hn hi q ▸ hjl)
    rw [zip_lookup_none h1, List.getElem?_eq_none (by omega)]
theorem locN_eq {scope : Scope} {ns : List Str} {bv : List (V N)} (hn : (scope.names.map (·.1)).Nodup) (ht : (scope.names.take ns.length).map (·.1) = ns) (hl : bv.length = ns.length) : locOf scope (ns.zip bv) = locN (scope.names.map (·.2)) bv := by
  funext i
  unfold locOf locN
  rw [List.getElem?_map]
  cases q : scope.names[i]? with
  | none => rfl
  | some p =>
    obtain ⟨x, k⟩ := p
    cases k <;> first | rfl | exact bd_at hn ht hl q
theorem kapN_eq {scope : Scope} {ns : List Str} {bv : List (V N)} (hn : (scope.names.map (·.1)).Nodup) (ht : (scope.names.take ns.length).map (·.1) = ns) (hl : bv.length = ns.length) (hf : capNames scope.names = []) : kapOf scope (fun _ => none) (ns.zip bv) [] = kapN (scope.names.map (·.2)) bv := by
  funext i
  unfold kapOf kapN
  rw [List.getElem?_map, hf]
  cases q : scope.names[i]? with
  | none => rfl
  | some p =>
    obtain ⟨x, k⟩ := p
    cases k <;> first | rfl | (dsimp only [Option.map]; rw [bd_at hn ht hl q]; done) | (dsimp only [Option.map]; rw [bd_at hn ht hl q]; rfl)
theorem cells_none {bd : List (Str × V N)} : ∀ {l : List Str}, cellsSto (fun _ => none) bd l σ = σ
  | [] => rfl
  | x :: r => cells_none (l := r)
/-- a function of the fragment called, none of its cells named -/
theorem PCc.go {e : FnE} {as us bv : List (V N)} {kn : List Str} (ok : O.Ok) (F : FnOk O N e) (hD : 1 ≤ c.D) (hb : bindOk e.ns e.ds.length as (kn.zip us) = true) (hbv : bindP e.ns (e.ds.map DV.v) as (kn.zip us) = e.ns.zip bv) (hl : bv.length = e.ns.length)
    (h : AX O ⟨⟨(rowAt O.K e.addr).scope, (rowAt O.K e.addr).qual ++ (".<locals>." : Str), e.nest⟩, kapN e.kinds bv, c.D - 1, c.hd⟩ e.ms (locN e.kinds bv) σ (fun af _ σ => Q af.val σ) (fun v _ σ => X v σ)) : PCc O c (.st (.ref e.addr)) as kn us ρ σ Q X := by
  refine PCc.fn (nm := fun _ => none) (D' := c.D - 1) (b := .inl e.ms) ok F.st F.row F.cb (by omega) (by rw [List.length_map]; exact hb) (by rw [show List.filterMap (fun _ => (none : Option N)) (cellNames (rowAt O.K e.addr).scope.names) = [] from by induction cellNames (rowAt O.K e.addr).scope.names <;> simp_all]; exact .nil) (fun n hn => by simp at hn) ?_
  rw [hbv, locN_eq F.row.nodup F.names.2 hl, kapN_eq F.row.nodup F.names.2 hl F.st.free, F.names.1, cells_none]
  exact h
end
end Mine
namespace Mine
theorem ifT {p q : Prop} (h : p) : if (true : Bool) = true then p else q := by simpa using h
theorem ifF {p q : Prop} (h : q) : if (false : Bool) = true then p else q := by simpa using h
theorem ifAnd {p q : Prop} (h : p) : if (BoolOp.And == BoolOp.And) = true then p else q := by rw [if_pos (by decide)]; exact h
section
variable {N : Type} {O : Om} {c : Cx N} {ρ : Loc N} {σ : Sto N} {Q X : V N → Sto N → Prop}
theorem items_ref {n : N} {vs : List (V N)} (h : σ n = some (.list vs)) : itemsOf σ (.ref n) = some vs := by
  show (match σ n with | some (.list vs) => some vs | _ => none) = _; rw [h]
theorem items_lst {vs : List (V N)} : itemsOf σ (.lst vs) = some vs := rfl
theorem items_tup {vs : List (V N)} : itemsOf σ (.tup vs) = some vs := rfl
theorem walk_ref {n : N} {vs : List (V N)} (h : σ n = some (.list vs)) : walkOf σ (.ref n) = some vs := items_ref h
/-- the rules for a list's items, by name or not -/
theorem P1B.lstR {n : N} {vs : List (V N)} {Q : Bool → Sto N → Prop} {X : V N → Sto N → Prop} (hi : σ n = some (.list vs)) (hl : vs.length < 1000000) (h : Q (!vs.isEmpty) σ) : P1B O c truthy (.ref n) ρ σ Q X := P1B.lst rfl (items_ref hi) hl h
theorem P1B.lstF {vs : List (V N)} {Q : Bool → Sto N → Prop} {X : V N → Sto N → Prop} (hl : vs.length < 1000000) (h : Q (!vs.isEmpty) σ) : P1B O c truthy (.lst vs) ρ σ Q X := P1B.lst rfl rfl hl h
theorem P1.getR {n : N} {C : Addr} {ns : List Str} {vs : List (V N)} {x : Str} {v : V N} {e : Bool} (ok : O.Ok) (hσ : σ n = some (.inst C ns vs)) (hg : fget ns vs x = some v) (hh : v.hands = true) (hc : ClsOk O C) (ha : AttrOk O C x) (h : Q v σ) : P1 O c (fun o => getAttr o x e) (.ref n) ρ σ Q X := .get ok hc hσ ha hg hh h
theorem P2U.setR {n : N} {C : Addr} {ns : List Str} {vs : List (V N)} {x : Str} {v : V N} {Q : Sto N → Prop} (ok : O.Ok) (hσ : σ n = some (.inst C ns vs)) (hz : ns.length ≤ 900) (hc : ClsOk O C) (ha : AttrOk O C x) (h : Q (σ.set n (.inst C (fputN ns x) (fputV ns vs x v)))) : P2U O c (fun o v => setAttr o x v) (.ref n) v ρ σ Q X := .set ok hc hσ ha hz h
end
end Mine
namespace Mine
section
variable {N : Type} {O : Om} {c : Cx N} {ρ : Loc N} {σ : Sto N} {Q X : V N → Sto N → Prop}
/-- an attribute of a class -/
def clsAtB (K : Frag) (C : Addr) (x : Str) (u : Value) : Bool := readsIn K C (.type "type") && (match findCls K (.ref C) (.type "type") x with | some (.val v) => decide (v = u) | _ => false) && handedIn u
theorem P1.cls {C : Addr} {x : Str} {u : Value} {e : Bool} (ok : O.Ok) (hc : clsAtB O.K C x u = true) (h : Q (.st u) σ) : P1 O c (fun o => getAttr o x e) (.st (.ref C)) ρ σ Q X := fun A env T Φ s a hA hv => by
  unfold VRep at hv; subst hv
  unfold clsAtB at hc
  rw [Bool.and_eq_true, Bool.and_eq_true] at hc
  obtain ⟨⟨h1, h2⟩, h3⟩ := hc
  split at h2
  · rename_i v hf
    rw [decide_eq_true_eq] at h2
    subst h2
    exact cls_value (hA.K ok) h1 hf h3 (.mk' (hA.toks _) (.refl _ _) (by unfold VRep; rfl) h)
  · cases h2
structure ClsMk0 (O : Om) (C : Addr) : Prop where
  makes : makesIn O.K C = true
  init : findIn O.K (.ref C) "__init__" = some (some (.builtin "object.__init__"))
  call : ∃ o cd r, O.K.lookup C = some o ∧ o.data = .cls cd ∧ specialIn O.K (.ref C) "__call__" = some r
def mk0B (K : Frag) (C : Addr) : Bool := makesIn K C && isFnd (findIn K (.ref C) "__init__") (some (.builtin "object.__init__")) && callB K C
theorem mk0B_ok {C : Addr} (h : mk0B O.K C = true) : ClsMk0 O C := by
  unfold mk0B isFnd at h
  simp only [Bool.and_eq_true, decide_eq_true_eq] at h
  exact ⟨h.1.1, h.1.2, callB_ok h.2⟩
theorem PCc.make0 {C : Addr} {n : N} (ok : O.Ok) (hm : ClsMk0 O C) (hσ : σ n = none) (h : Q (.ref n) (σ.set n (.inst C [] []))) : PCc O c (.st (.ref C)) [] [] [] ρ σ Q X := by
  refine ⟨?_, fun A env T Φ s fv avs kvs hA hf has hus => ?_⟩
  · obtain ⟨o, cd, r, h1, h2, h3⟩ := hm.call
    exact ⟨o, h1, .inr ⟨cd, r, h2, h3⟩⟩
  · unfold VRep at hf; subst hf
    rw [has.nil_inv, hus.nil_inv]
    show codeAny _ _ (.call (.ref C) ⟨[], []⟩) _ _
    have X' := hA.K ok
    obtain ⟨hh, g, d, t, os⟩ := s
    have Y := makes_of (M := model O.prog O.w) X' hm.makes
    have hx : ((hh.push emptyDict).push (instObj C hh.objs.size)).get? (hh.objs.size + 1) = some (instObj C hh.objs.size) := by heap_get
    have hd : ((hh.push emptyDict).push (instObj C hh.objs.size)).get? hh.objs.size = some (dictOf [] 0) := Heap.get?_push_of_some _ (Heap.get?_push_size _ rfl)
    have hk : ∀ b o, hh.get? b = some o → ((hh.push emptyDict).push (instObj C hh.objs.size)).get? b = some o := fun b o e => Heap.get?_push_of_some _ (Heap.get?_push_of_some _ e)
    refine make_core Y (looks_findIn X' hm.init) (fun self => Looks.of_pure (oi_bind self)) (.inr ⟨rfl, rfl⟩) ?_
    have t1 : Looks (model O.prog O.w) ((hh.push emptyDict).push (instObj C hh.objs.size)) (typeOf (.ref (hh.objs.size + 1))) (.ref C) := (Looks.ld hx).andThen .now
    have t2 : Looks (model O.prog O.w) ((hh.push emptyDict).push (instObj C hh.objs.size)) (isInstance (.ref (hh.objs.size + 1)) (.type "object")) true := t1.andThen (Y.top.keeps hk)
    refine codeAny_call_builtin oi_plain entry_oi (@check_slot (model O.prog O.w) _ _ _ "object.__init__" "object" "__init__" (.ref (hh.objs.size + 1)) [] [] _ oi_kind oi_split t2 (oi_args (.ref (hh.objs.size + 1))) ?_)
    rw [oi_run]
    have hA₁ := hA.inst_new (n := n) (C := C) (a := hh.objs.size + 1) (d := hh.objs.size) (s' := ⟨(hh.push emptyDict).push (instObj C hh.objs.size), g, d, t, os⟩) (ns := []) (vs := []) (es := []) (k := 0) hk (Nat.le_succ _) (Nat.le_refl _) (Nat.succ_ne_self _) hσ hx hd (by unfold KeysAre; rfl) .nil
    have le : T.le ((T.ins hh.objs.size (.part n)).ins (hh.objs.size + 1) (.own n)) := TM.le_ins2 (hA.rep.above_none (Nat.le_succ _)) hA.rep.size_none (Nat.succ_ne_self _)
    exact wpAny_pure (And.intro rfl ⟨_, _, .ref n, le, hA₁, rfl, rfl, by unfold VRep; exact ⟨_, rfl, TM.ins_self⟩, h⟩)
/-- {"name": number} -/
theorem AE.dct1 {k : Str} {i : Int} (ok : O.Ok) (h : Q (.dct [.str k] [.int i]) σ) : AE O c (.dct [.str k] [.int i]) ρ σ Q X := fun A env T Φ s e he hA => by
  cases he with
  | dct hk hv hl hs =>
    rename_i ks vs p
    cases hk with
    | cons hk1 _ hk2 =>
      cases hk2
      cases hv with
      | cons hv1 _ hv2 =>
        cases hv2
        cases hk1
        cases hv1
        rename_i k1 p1 _ k2 p2 _
        refine wpAny_Dict_pairs (knd := strKind O.prog O.w) (pairs := [(eval (.Constant (.str k) k1 p1) env, (do let x ← eval (.Constant (.int i) k2 p2) env; standAt p; pure x))]) rfl (by simp) (by simp) ?_
        refine evalPairs_cons (wpAny_Constant_str (wpAny_bind (wpAny_Constant_int (wpAny_bind (wpAny_standAt (wpAny_pure (evalPairs_nil ?_)))))))
        have hd0 : (s.heap.push emptyDict).DictOf (strKind O.prog O.w) s.heap.objs.size [] := ⟨emptyDict, #[], 0, Heap.get?_push_size _ rfl, ⟨rfl, rfl, rfl⟩, rfl, fun e he => by simp at he, .nil, by simp⟩
        refine ⟨[(k, .int i _)], ⟨strKind_is _ _ _ _, rfl, trivial⟩, hd0, fun h' hm hsm => ?_⟩
        obtain ⟨es, n, ho, k1, k2, k3⟩ := dict_back (kv := keyStr O N) (T := T) hm
        have hne : ∀ b o, s.heap.get? b = some o → h'.get? b = some o := fun b o q => (hsm.2 b (Nat.ne_of_lt (Heap.lt_size q))).trans (Heap.get?_push_of_some _ q)
        have hA' := (hA.fro_new (o := dictOf es n) (s' := { s with heap := h' }) hne (Nat.le_refl _) ho).tk (s.toks + 1 + 1 + 1)
        have le := TM.le_ins (t := (Trk.fro (dictOf es n) : Trk N)) hA.rep.size_none
        refine .mk' hA' ⟨le, rfl, rfl⟩ ?_ h
        unfold VRep
        refine ⟨_, es, n, rfl, not_sys' ok hA, TM.ins_self, VReps.mono le _ k1, ?_, k3⟩
        rw [k2]
        exact .cons (by unfold VRep; exact ⟨_, rfl⟩) .nil
end
end Mine
namespace Mine
theorem addD_lookup {α : Type} {x : Str} : ∀ {l S : List (Str × α)}, (addD S l).lookup x = (S.lookup x).or (l.lookup x)
  | [], S => by unfold addD; simp
  | (n, d) :: r, S => by
    unfold addD
    split
    · rename_i h
      rw [addD_lookup, lookup_app, List.lookup_cons, List.lookup_cons]
      cases q : x == n with
      | false => cases S.lookup x <;> simp
      | true =>
        rw [beq_iff_eq.mp q, Option.isNone_iff_eq_none.mp h]
        simp
    · rename_i h
      rw [addD_lookup, List.lookup_cons]
      cases q : x == n with
      | false => rfl
      | true =>
        rw [beq_iff_eq.mp q]
        cases e : S.lookup n with
        | none => rw [e] at h; simp at h
        | some v => simp
theorem filterMap_zip {α : Type} {f : Str → Option α} : ∀ {ns : List Str} {bv : List α}, bv.length = ns.length → (∀ (i : Nat) x, ns[i]? = some x → f x = bv[i]?) → ns.filterMap (fun n => (f n).map fun v => (n, v)) = ns.zip bv
  | [], [], _, _ => rfl
  | n :: ns, v :: bv, hl, h => by
    have h0 := h 0 n rfl
    simp only [List.getElem?_cons_zero] at h0
    rw [List.filterMap_cons, h0, List.zip_cons_cons]
    simp only [Option.map_some]
    rw [filterMap_zip (by simpa using hl) fun i x hx => by simpa using h (i + 1) x (by simpa using hx)]
  | [], _ :: _, hl, _ => by simp at hl
  | _ :: _, [], hl, _ => by simp at hl
theorem bind_pos {α : Type} {ns : List Str} {ds as bv : List α} (hn : ns.Nodup) (h1 : as.length ≤ ns.length) (h2 : ds.length ≤ ns.length) (h3 : ns.length - ds.length ≤ as.length) (hb : bv = as ++ ds.drop (as.length - (ns.length - ds.length))) : bindOk ns ds.length as [] = true ∧ bindP ns ds as [] = ns.zip bv ∧ bv.length = ns.length := by
  have hl : bv.length = ns.length := by rw [hb, List.length_append, List.length_drop]; omega
  refine ⟨?_, ?_, hl⟩
  · unfold bindOk
    simp only [Bool.and_eq_true, decide_eq_true_eq, List.all_eq_true, List.append_nil]
    refine ⟨⟨⟨h1, h2⟩, rfl⟩, fun n hm => ?_⟩
    obtain ⟨i, hi⟩ := List.getElem?_of_mem hm
    have hlt : i < ns.length - ds.length := by
      have := (List.getElem?_eq_some_iff.mp hi).1
      rw [List.length_take] at this; omega
    rw [List.getElem?_take_of_lt hlt] at hi
    rw [zip_lookup hn hi, List.getElem?_eq_getElem (by omega)]
    rfl
  · unfold bindP
    refine filterMap_zip hl fun i x hx => ?_
    rw [List.append_nil, addD_lookup, zip_lookup hn hx, hb]
    by_cases hi : i < as.length
    · rw [List.getElem?_eq_getElem hi, List.getElem?_append_left hi, List.getElem?_eq_getElem hi]; rfl
    · rw [List.getElem?_eq_none (by omega), Option.none_or, List.getElem?_append_right (by omega), List.getElem?_drop]
      have hx' : (ns.drop (ns.length - ds.length))[i - (ns.length - ds.length)]? = some x := by rw [List.getElem?_drop, show ns.length - ds.length + (i - (ns.length - ds.length)) = i by omega]; exact hx
      rw [zip_lookup (hn.sublist (List.drop_sublist _ _)) hx']
      congr 1; omega
section
variable {N : Type} {O : Om} {c : Cx N} {ρ : Loc N} {σ : Sto N} {Q X : V N → Sto N → Prop}
/-- a function of the fragment called by positions, none of its cells named -/
theorem PCc.goP {e : FnE} {as bv : List (V N)} (ok : O.Ok) (F : FnOk O N e) (hD : 1 ≤ c.D) (h1 : as.length ≤ e.ns.length) (h2 : e.ds.length ≤ e.ns.length) (h3 : e.ns.length - e.ds.length ≤ as.length) (hbv : bv = as ++ (e.ds.map DV.v).drop (as.length - (e.ns.length - e.ds.length)))
    (h : AX O ⟨⟨(rowAt O.K e.addr).scope, (rowAt O.K e.addr).qual ++ (".<locals>." : Str), e.nest⟩, kapN e.kinds bv, c.D - 1, c.hd⟩ e.ms (locN e.kinds bv) σ (fun af _ σ => Q af.val σ) (fun v _ σ => X v σ)) : PCc O c (.st (.ref e.addr)) as [] [] ρ σ Q X := by
  obtain ⟨b1, b2, b3⟩ := bind_pos (ds := e.ds.map DV.v) (bv := bv) F.row.nsd h1 (by rw [List.length_map]; exact h2) (by rw [List.length_map]; exact h3) (by rw [List.length_map]; exact hbv)
  rw [List.length_map] at b1
  exact PCc.go (kn := []) (us := []) ok F hD b1 b2 b3 h
end
end Mine
open PySem PySem.W PyProof.Rows
namespace Mine
section
local macro_rules | `(tactic| o_head $_) => `(tactic| exact (by assumption : ∀ p : Prop, p) _)
set_option maxHeartbeats 0 in
/-- nothing is proved here: it writes the heap's frame down once -/
theorem pre (h : ∀ p : Prop, p) : PySem.Challenge.rw_fc0209_05.Holds := by
  w_on; o_law; k_head
end
end Mine
namespace Mine
noncomputable abbrev KL : Params → Frag := Mine.pre.heap_39
abbrev g_AbortSavepoint : Value := .ref 629
abbrev g_AlreadyInTransaction : Value := .ref 113
abbrev g_BaseException : Value := .type "BaseException"
abbrev g_DoomedTransaction : Value := .ref 77
abbrev g_Exception : Value := .type "Exception"
abbrev g_Manager : Value := .ref 995
abbrev g_NoTransaction : Value := .ref 101
abbrev g_Passing : Value := .ref 871
abbrev g_Refusal : Value := .ref 851
abbrev g_Status : Value := .ref 200
abbrev g_StringIO : Value := .ref 38
abbrev g_Transaction : Value := .ref 558
abbrev g_TransactionManager : Value := .ref 830
abbrev g_ValueError : Value := .type "ValueError"
abbrev g_WeakSet : Value := .ref 179
abbrev g__NoSynchronizers : Value := .ref 224
abbrev g__TB_BUFFER : Value := .none
abbrev g__law_rows : Value := .ref 1030
abbrev g__makeTracebackBuffer : Value := .ref 190
abbrev g__new_transaction : Value := .ref 675
abbrev g_delattr : Value := .builtin "delattr"
abbrev g_getattr : Value := .builtin "getattr"
abbrev g_hasattr : Value := .builtin "hasattr"
abbrev g_len : Value := .builtin "len"
abbrev g_list : Value := .type "list"
abbrev g_range : Value := .type "range"
abbrev g_rm_key : Value := .ref 569
abbrev g_sorted : Value := .builtin "sorted"
abbrev g_str : Value := .type "str"
abbrev g_tuple : Value := .type "tuple"
abbrev g_type : Value := .type "type"
abbrev C_StringIO : Addr := 38
abbrev C_TransactionError : Addr := 52
abbrev C_TransactionFailedError : Addr := 65
abbrev C_DoomedTransaction : Addr := 77
abbrev C_TransientError : Addr := 89
abbrev C_NoTransaction : Addr := 101
abbrev C_AlreadyInTransaction : Addr := 113
abbrev C_WeakSet : Addr := 179
abbrev C_Status : Addr := 200
abbrev s_ACTIVE : Value := .str ("Active" : Str) 429
abbrev s_COMMITTING : Value := .str ("Committing" : Str) 431
abbrev s_COMMITTED : Value := .str ("Committed" : Str) 433
abbrev s_DOOMED : Value := .str ("Doomed" : Str) 435
abbrev s_COMMITFAILED : Value := .str ("Commit failed" : Str) 437
abbrev C__NoSynchronizers : Addr := 224
abbrev C_Transaction : Addr := 558
abbrev C_Savepoint : Addr := 601
abbrev C_AbortSavepoint : Addr := 629
abbrev C_NoRollbackSavepoint : Addr := 657
abbrev C_TransactionManager : Addr := 830
abbrev C_Refusal : Addr := 851
abbrev C_Passing : Addr := 871
abbrev C_Party : Addr := 898
abbrev C_PlainManager : Addr := 969
abbrev C_Manager : Addr := 995
abbrev C_ManagerSavepoint : Addr := 1021
def GL : List (Str × Value) := [(("AbortSavepoint" : Str), g_AbortSavepoint), (("AlreadyInTransaction" : Str), g_AlreadyInTransaction), (("BaseException" : Str), g_BaseException), (("DoomedTransaction" : Str), g_DoomedTransaction), (("Exception" : Str), g_Exception), (("Manager" : Str), g_Manager), (("NoTransaction" : Str), g_NoTransaction), (("Passing" : Str), g_Passing), (("Refusal" : Str), g_Refusal), (("Status" : Str), g_Status), (("StringIO" : Str), g_StringIO), (("Transaction" : Str), g_Transaction), (("TransactionManager" : Str), g_TransactionManager), (("ValueError" : Str), g_ValueError), (("WeakSet" : Str), g_WeakSet), (("_NoSynchronizers" : Str), g__NoSynchronizers), (("_TB_BUFFER" : Str), g__TB_BUFFER), (("_law_rows" : Str), g__law_rows), (("_makeTracebackBuffer" : Str), g__makeTracebackBuffer), (("_new_transaction" : Str), g__new_transaction), (("delattr" : Str), g_delattr), (("getattr" : Str), g_getattr), (("hasattr" : Str), g_hasattr), (("len" : Str), g_len), (("list" : Str), g_list), (("range" : Str), g_range), (("rm_key" : Str), g_rm_key), (("sorted" : Str), g_sorted), (("str" : Str), g_str), (("tuple" : Str), g_tuple), (("type" : Str), g_type)]
-- WeakSet.__init__ names [self.local]
abbrev m_WeakSet___init__ : List MS :=
  [.asg [(.attr (.loc 0) ("data" : Str))] (.lst [])]
abbrev f_WeakSet___init__ : FnE := ⟨129, false, [("self" : Str)], [], [.local], m_WeakSet___init__⟩
-- WeakSet.__len__ names [self.local, len.globalImplicit]
abbrev m_WeakSet___len__ : List MS :=
  [.ret (some (.call (.st g_len) [(.attr (.loc 0) ("data" : Str))] [] []))]
abbrev f_WeakSet___len__ : FnE := ⟨136, false, [("self" : Str)], [], [.local, .globalImplicit], m_WeakSet___len__⟩
-- WeakSet.map names [self.local, f.local, wr.local, elt.local]
abbrev m_WeakSet_map : List MS :=
  [.for (.loc 2) (.mcall (.loc 0) ("as_weakref_list" : Str) [] [] []) [.asg [(.loc 3)] (.loc 2),
  .ite (.cmp (.loc 3) [.IsNot] [.none]) [.expr (.call (.loc 1) [(.loc 3)] [] [])] []]]
abbrev f_WeakSet_map : FnE := ⟨169, false, [("self" : Str), ("f" : Str)], [], [.local, .local, .local, .local], m_WeakSet_map⟩
-- WeakSet.as_weakref_list names [self.local, list.globalImplicit]
abbrev m_WeakSet_as_weakref_list : List MS :=
  [.ret (some (.call (.st g_list) [(.attr (.loc 0) ("data" : Str))] [] []))]
abbrev f_WeakSet_as_weakref_list : FnE := ⟨176, false, [("self" : Str)], [], [.local, .globalImplicit], m_WeakSet_as_weakref_list⟩
-- _makeTracebackBuffer names [_TB_BUFFER.globalImplicit, StringIO.globalImplicit]
abbrev m__makeTracebackBuffer : List MS :=
  [.ite (.cmp (.st g__TB_BUFFER) [.IsNot] [.none]) [.ret (some (.st g__TB_BUFFER))] [],
  .ret (some (.call (.st g_StringIO) [] [] []))]
abbrev f__makeTracebackBuffer : FnE := ⟨190, false, [], [], [.globalImplicit, .globalImplicit], m__makeTracebackBuffer⟩
-- Transaction.__init__ names [self.local, synchronizers.local, manager.local, Status.globalImplicit, WeakSet.globalImplicit]
abbrev m_Transaction___init__ : List MS :=
  [.asg [(.attr (.loc 0) ("status" : Str))] (.attr (.st g_Status) ("ACTIVE" : Str)),
  .asg [(.attr (.loc 0) ("_resources" : Str))] (.lst []),
  .ite (.cmp (.loc 1) [.Is] [.none]) [.asg [(.loc 1)] (.call (.st g_WeakSet) [] [] [])] [],
  .asg [(.attr (.loc 0) ("_synchronizers" : Str))] (.loc 1),
  .asg [(.attr (.loc 0) ("_manager" : Str))] (.loc 2),
  .asg [(.attr (.loc 0) ("_adapters" : Str))] (.dct [] []),
  .asg [(.attr (.loc 0) ("_voted" : Str))] (.lst []),
  .asg [(.attr (.loc 0) ("extension" : Str))] (.dct [] []),
  .asg [(.attr (.loc 0) ("_failure_traceback" : Str))] .none,
  .asg [(.attr (.loc 0) ("_before_commit" : Str))] (.lst []),
  .asg [(.attr (.loc 0) ("_after_commit" : Str))] (.lst []),
  .asg [(.attr (.loc 0) ("_before_abort" : Str))] (.lst []),
  .asg [(.attr (.loc 0) ("_after_abort" : Str))] (.lst [])]
abbrev f_Transaction___init__ : FnE := ⟨243, false, [("self" : Str), ("synchronizers" : Str), ("manager" : Str)], [.none, .none], [.local, .local, .local, .globalImplicit, .globalImplicit], m_Transaction___init__⟩
-- Transaction.doom names [self.local, Status.globalImplicit, ValueError.globalImplicit]
abbrev m_Transaction_doom : List MS :=
  [.ite (.cmp (.attr (.loc 0) ("status" : Str)) [.IsNot] [(.attr (.st g_Status) ("DOOMED" : Str))]) [.ite (.cmp (.attr (.loc 0) ("status" : Str)) [.IsNot] [(.attr (.st g_Status) ("ACTIVE" : Str))]) [.raise (some (.call (.st g_ValueError) [(.str ("non-doomable" : Str))] [] []))] [],
  .asg [(.attr (.loc 0) ("status" : Str))] (.attr (.st g_Status) ("DOOMED" : Str))] []]
abbrev f_Transaction_doom : FnE := ⟨322, false, [("self" : Str)], [], [.local, .globalImplicit, .globalImplicit], m_Transaction_doom⟩
-- Transaction.join names [self.local, resource.local, datamanager_savepoint.local, transaction_savepoint.local, Status.globalImplicit, ValueError.globalImplicit, AbortSavepoint.globalImplicit]
abbrev m_Transaction_join : List MS :=
  [.ite (.cmp (.attr (.loc 0) ("status" : Str)) [.Is] [(.attr (.st g_Status) ("COMMITFAILED" : Str))]) [.expr (.mcall (.loc 0) ("_prior_operation_failed" : Str) [] [] [])] [],
  .ite (.bop .And [(.cmp (.attr (.loc 0) ("status" : Str)) [.IsNot] [(.attr (.st g_Status) ("ACTIVE" : Str))]), (.cmp (.attr (.loc 0) ("status" : Str)) [.IsNot] [(.attr (.st g_Status) ("DOOMED" : Str))])]) [.raise (some (.call (.st g_ValueError) [.bad] [] []))] [],
  .expr (.mcall (.attr (.loc 0) ("_resources" : Str)) ("append" : Str) [(.loc 1)] [] []),
  .ite (.attr (.loc 0) ("_savepoint2index" : Str)) [.asg [(.loc 2)] (.call (.st g_AbortSavepoint) [(.loc 1), (.loc 0)] [] []),
  .for (.loc 3) (.mcall (.attr (.loc 0) ("_savepoint2index" : Str)) ("keys" : Str) [] [] []) [.expr (.mcall (.attr (.loc 3) ("_savepoints" : Str)) ("append" : Str) [(.loc 2)] [] [])]] []]
abbrev f_Transaction_join : FnE := ⟨336, false, [("self" : Str), ("resource" : Str)], [], [.local, .local, .local, .local, .globalImplicit, .globalImplicit, .globalImplicit], m_Transaction_join⟩
-- Transaction.commit names [self.cell, Status.globalImplicit, DoomedTransaction.globalImplicit]
abbrev m_Transaction_commit : List MS :=
  [.ite (.cmp (.attr (.cel 0) ("status" : Str)) [.Is] [(.attr (.st g_Status) ("DOOMED" : Str))]) [.raise (some (.call (.st g_DoomedTransaction) [(.str ("transaction doomed, cannot commit" : Str))] [] []))] [],
  .ite (.attr (.cel 0) ("_savepoint2index" : Str)) [.expr (.mcall (.cel 0) ("_invalidate_all_savepoints" : Str) [] [] [])] [],
  .ite (.cmp (.attr (.cel 0) ("status" : Str)) [.Is] [(.attr (.st g_Status) ("COMMITFAILED" : Str))]) [.expr (.mcall (.cel 0) ("_prior_operation_failed" : Str) [] [] [])] [],
  .expr (.mcall (.cel 0) ("_callBeforeCommitHooks" : Str) [] [] []),
  .expr (.mcall (.attr (.cel 0) ("_synchronizers" : Str)) ("map" : Str) [(.lam 11862048 [0])] [] []),
  .asg [(.attr (.cel 0) ("status" : Str))] (.attr (.st g_Status) ("COMMITTING" : Str)),
  .try [.expr (.mcall (.cel 0) ("_commitResources" : Str) [] [] []),
  .asg [(.attr (.cel 0) ("status" : Str))] (.attr (.st g_Status) ("COMMITTED" : Str))] [(.mk none none [.expr (.mcall (.cel 0) ("_saveAndGetCommitishError" : Str) [] [] []),
  .expr (.mcall (.cel 0) ("_callAfterCommitHooks" : Str) [] [("status" : Str)] [(.bool false)]),
  .raise none])] [.expr (.mcall (.attr (.cel 0) ("_synchronizers" : Str)) ("map" : Str) [(.lam 12517412 [0])] [] []),
  .expr (.mcall (.cel 0) ("_callAfterCommitHooks" : Str) [] [("status" : Str)] [(.bool true)]),
  .expr (.mcall (.cel 0) ("_free" : Str) [] [] [])] []]
abbrev f_Transaction_commit : FnE := ⟨372, true, [("self" : Str)], [], [.cell, .globalImplicit, .globalImplicit], m_Transaction_commit⟩
-- Transaction._saveAndGetCommitishError names [self.local, ft.local, Status.globalImplicit, _makeTracebackBuffer.globalImplicit]
abbrev m_Transaction__saveAndGetCommitishError : List MS :=
  [.asg [(.attr (.loc 0) ("status" : Str))] (.attr (.st g_Status) ("COMMITFAILED" : Str)),
  .asg [(.loc 1), (.attr (.loc 0) ("_failure_traceback" : Str))] (.call (.st g__makeTracebackBuffer) [] [] [])]
abbrev f_Transaction__saveAndGetCommitishError : FnE := ⟨379, false, [("self" : Str)], [], [.local, .local, .globalImplicit, .globalImplicit], m_Transaction__saveAndGetCommitishError⟩
-- Transaction.addBeforeCommitHook names [self.local, hook.local, args.local, kws.local, tuple.globalImplicit]
abbrev m_Transaction_addBeforeCommitHook : List MS :=
  [.ite (.cmp (.loc 3) [.Is] [.none]) [.asg [(.loc 3)] (.dct [] [])] [],
  .expr (.mcall (.attr (.loc 0) ("_before_commit" : Str)) ("append" : Str) [(.tup [(.loc 1), (.call (.st g_tuple) [(.loc 2)] [] []), (.loc 3)])] [] [])]
abbrev f_Transaction_addBeforeCommitHook : FnE := ⟨395, false, [("self" : Str), ("hook" : Str), ("args" : Str), ("kws" : Str)], [.tup0, .none], [.local, .local, .local, .local, .globalImplicit], m_Transaction_addBeforeCommitHook⟩
-- Transaction._callBeforeCommitHooks names [self.local]
abbrev m_Transaction__callBeforeCommitHooks : List MS :=
  [.expr (.mcall (.loc 0) ("_call_hooks" : Str) [(.attr (.loc 0) ("_before_commit" : Str))] [] [])]
abbrev f_Transaction__callBeforeCommitHooks : FnE := ⟨402, false, [("self" : Str)], [], [.local], m_Transaction__callBeforeCommitHooks⟩
-- Transaction._callAfterCommitHooks names [self.local, status.local]
abbrev m_Transaction__callAfterCommitHooks : List MS :=
  [.expr (.mcall (.loc 0) ("_call_hooks" : Str) [(.attr (.loc 0) ("_after_commit" : Str))] [("exc" : Str), ("clean" : Str), ("prefix_args" : Str)] [(.bool false), (.bool true), (.tup [(.loc 1)])])]
abbrev f_Transaction__callAfterCommitHooks : FnE := ⟨426, false, [("self" : Str), ("status" : Str)], [.bool true], [.local, .local], m_Transaction__callAfterCommitHooks⟩
-- Transaction._call_hooks names [self.local, hooks.local, exc.local, clean.local, prefix_args.local, hook.local, args.local, kws.local, rm.local]
abbrev m_Transaction__call_hooks : List MS :=
  [.ite (.not (.loc 1)) [.ret none] [],
  .try [.for (.tup [(.loc 5), (.loc 6), (.loc 7)]) (.loc 1) [.try [.expr (.call (.loc 5) [(.bin .Add (.loc 4) (.loc 6)), (.loc 7)] [] [])] [(.mk none none [.ite (.loc 2) [.raise none] []])] [] []]] [] [] [.del (.sub (.loc 1) (.sli none none)),
  .ite (.loc 3) [.for (.loc 8) (.attr (.loc 0) ("_resources" : Str)) [.try [.expr (.mcall (.loc 8) ("abort" : Str) [(.loc 0)] [] [])] [(.mk none none [.pass])] [] []]] []]]
abbrev f_Transaction__call_hooks : FnE := ⟨435, false, [("self" : Str), ("hooks" : Str), ("exc" : Str), ("clean" : Str), ("prefix_args" : Str)], [.bool true, .bool false, .tup0], [.local, .local, .local, .local, .local, .local, .local, .local, .local], m_Transaction__call_hooks⟩
-- Transaction._callBeforeAbortHooks names [self.local]
abbrev m_Transaction__callBeforeAbortHooks : List MS :=
  [.expr (.mcall (.loc 0) ("_call_hooks" : Str) [(.attr (.loc 0) ("_before_abort" : Str))] [("exc" : Str)] [(.bool false)])]
abbrev f_Transaction__callBeforeAbortHooks : FnE := ⟨458, false, [("self" : Str)], [], [.local], m_Transaction__callBeforeAbortHooks⟩
-- Transaction._callAfterAbortHooks names [self.local]
abbrev m_Transaction__callAfterAbortHooks : List MS :=
  [.expr (.mcall (.loc 0) ("_call_hooks" : Str) [(.attr (.loc 0) ("_after_abort" : Str))] [("clean" : Str)] [(.bool true)])]
abbrev f_Transaction__callAfterAbortHooks : FnE := ⟨481, false, [("self" : Str)], [], [.local], m_Transaction__callAfterAbortHooks⟩
-- Transaction._commitResources names [self.cell, L.local, rm.local, list.globalImplicit, rm_key.globalImplicit]
abbrev m_Transaction__commitResources : List MS :=
  [.asg [(.loc 1)] (.call (.st g_list) [(.attr (.cel 0) ("_resources" : Str))] [] []),
  .expr (.mcall (.loc 1) ("sort" : Str) [] [("key" : Str)] [(.st g_rm_key)]),
  .try [.for (.loc 2) (.loc 1) [.expr (.mcall (.loc 2) ("tpc_begin" : Str) [(.cel 0)] [] [])],
  .for (.loc 2) (.loc 1) [.expr (.mcall (.loc 2) ("commit" : Str) [(.cel 0)] [] [])],
  .for (.loc 2) (.loc 1) [.expr (.mcall (.loc 2) ("tpc_vote" : Str) [(.cel 0)] [] []),
  .asg [(.attr (.cel 0) ("_voted" : Str))] (.bin .Add (.attr (.cel 0) ("_voted" : Str)) (.lst [(.loc 2)]))],
  .try [.for (.loc 2) (.loc 1) [.expr (.mcall (.loc 2) ("tpc_finish" : Str) [(.cel 0)] [] [])]] [(.mk none none [.raise none])] [] []] [(.mk none none [.try [.expr (.mcall (.cel 0) ("_cleanup" : Str) [(.loc 1)] [] [])] [] [] [.expr (.mcall (.attr (.cel 0) ("_synchronizers" : Str)) ("map" : Str) [(.lam 18087976 [0])] [] [])],
  .raise none])] [] []]
abbrev f_Transaction__commitResources : FnE := ⟨488, true, [("self" : Str)], [], [.cell, .local, .local, .globalImplicit, .globalImplicit], m_Transaction__commitResources⟩
-- Transaction._cleanup names [self.local, L.local, rm.cell, Exception.globalImplicit]
abbrev m_Transaction__cleanup : List MS :=
  [.for (.cel 2) (.loc 1) [.ite (.not (.comp (.loc 1) [(.mk (.loc 1) (.attr (.loc 0) ("_voted" : Str)) [(.cmp (.loc 1) [.Is] [(.cel 2)])])] ⟨.function, [((".0" : Str), .local), (("one" : Str), .local), (("rm" : Str), .free)], false, false, []⟩ [(2, 2)])) [.try [.expr (.mcall (.cel 2) ("abort" : Str) [(.loc 0)] [] [])] [(.mk (some (.st g_Exception)) none [.pass])] [] []] []],
  .for (.cel 2) (.loc 1) [.try [.expr (.mcall (.cel 2) ("tpc_abort" : Str) [(.loc 0)] [] [])] [(.mk (some (.st g_Exception)) none [.pass])] [] []]]
abbrev f_Transaction__cleanup : FnE := ⟨493, false, [("self" : Str), ("L" : Str)], [], [.local, .local, .cell, .globalImplicit], m_Transaction__cleanup⟩
-- Transaction._free_manager names [self.local]
abbrev m_Transaction__free_manager : List MS :=
  [.try [.ite (.attr (.loc 0) ("_manager" : Str)) [.expr (.mcall (.attr (.loc 0) ("_manager" : Str)) ("free" : Str) [(.loc 0)] [] [])] []] [] [] [.asg [(.attr (.loc 0) ("_manager" : Str))] .none]]
abbrev f_Transaction__free_manager : FnE := ⟨500, false, [("self" : Str)], [], [.local], m_Transaction__free_manager⟩
-- Transaction._free names [self.local, hasattr.globalImplicit, delattr.globalImplicit, _NoSynchronizers.globalImplicit]
abbrev m_Transaction__free : List MS :=
  [.expr (.mcall (.loc 0) ("_free_manager" : Str) [] [] []),
  .ite (.call (.st g_hasattr) [(.loc 0), (.str ("_data" : Str))] [] []) [.expr (.call (.st g_delattr) [(.loc 0), (.str ("_data" : Str))] [] [])] [],
  .del (.sub (.attr (.loc 0) ("_resources" : Str)) (.sli none none)),
  .del (.sub (.attr (.loc 0) ("_before_commit" : Str)) (.sli none none)),
  .del (.sub (.attr (.loc 0) ("_after_commit" : Str)) (.sli none none)),
  .del (.sub (.attr (.loc 0) ("_before_abort" : Str)) (.sli none none)),
  .del (.sub (.attr (.loc 0) ("_after_abort" : Str)) (.sli none none)),
  .asg [(.attr (.loc 0) ("_synchronizers" : Str))] (.st g__NoSynchronizers),
  .asg [(.attr (.loc 0) ("_adapters" : Str))] .none,
  .asg [(.attr (.loc 0) ("_voted" : Str))] .none,
  .asg [(.attr (.loc 0) ("extension" : Str))] .none]
abbrev f_Transaction__free : FnE := ⟨507, false, [("self" : Str)], [], [.local, .globalImplicit, .globalImplicit, .globalImplicit], m_Transaction__free⟩
-- Transaction.abort names [self.cell, t.local, v.local, tb.local, exc.local, rm.local, BaseException.globalImplicit, type.globalImplicit]
abbrev m_Transaction_abort : List MS :=
  [.try [.asg [(.loc 1)] .none,
  .asg [(.loc 2)] .none,
  .asg [(.loc 3)] .none,
  .expr (.mcall (.cel 0) ("_callBeforeAbortHooks" : Str) [] [] []),
  .ite (.attr (.cel 0) ("_savepoint2index" : Str)) [.expr (.mcall (.cel 0) ("_invalidate_all_savepoints" : Str) [] [] [])] [],
  .try [.expr (.mcall (.attr (.cel 0) ("_synchronizers" : Str)) ("map" : Str) [(.lam 21954600 [0])] [] [])] [(.mk (some (.st g_BaseException)) (some 4) [.asg [(.tup [(.loc 1), (.loc 2), (.loc 3)])] (.tup [(.call (.st g_type) [(.loc 4)] [] []), (.loc 4), (.bool true)])])] [] [],
  .for (.loc 5) (.attr (.cel 0) ("_resources" : Str)) [.try [.expr (.mcall (.loc 5) ("abort" : Str) [(.cel 0)] [] [])] [(.mk (some (.st g_BaseException)) (some 4) [.ite (.cmp (.loc 3) [.Is] [.none]) [.asg [(.tup [(.loc 1), (.loc 2), (.loc 3)])] (.tup [(.call (.st g_type) [(.loc 4)] [] []), (.loc 4), (.bool true)])] []])] [] []],
  .expr (.mcall (.cel 0) ("_callAfterAbortHooks" : Str) [] [] []),
  .expr (.mcall (.cel 0) ("_free_manager" : Str) [] [] []),
  .expr (.mcall (.attr (.cel 0) ("_synchronizers" : Str)) ("map" : Str) [(.lam 22675492 [0])] [] []),
  .ite (.cmp (.loc 3) [.IsNot] [.none]) [.raise (some (.loc 2))] []] [] [] [.expr (.mcall (.cel 0) ("_free" : Str) [] [] [])]]
abbrev f_Transaction_abort : FnE := ⟨526, true, [("self" : Str)], [], [.cell, .local, .local, .local, .local, .local, .globalImplicit, .globalImplicit], m_Transaction_abort⟩
-- rm_key names [rm.local, func.local, getattr.globalImplicit]
abbrev m_rm_key : List MS :=
  [.asg [(.loc 1)] (.call (.st g_getattr) [(.loc 0), (.str ("sortKey" : Str)), .none] [] []),
  .ite (.cmp (.loc 1) [.IsNot] [.none]) [.ret (some (.call (.loc 1) [] [] []))] []]
abbrev f_rm_key : FnE := ⟨569, false, [("rm" : Str)], [], [.local, .local, .globalImplicit], m_rm_key⟩
-- _new_transaction names [txn.cell, synchs.local]
abbrev m__new_transaction : List MS :=
  [.ite (.loc 1) [.expr (.mcall (.loc 1) ("map" : Str) [(.lam 27131923 [0])] [] [])] []]
abbrev f__new_transaction : FnE := ⟨675, true, [("txn" : Str), ("synchs" : Str)], [], [.cell, .local], m__new_transaction⟩
-- TransactionManager.__init__ names [self.local, explicit.local, WeakSet.globalImplicit]
abbrev m_TransactionManager___init__ : List MS :=
  [.asg [(.attr (.loc 0) ("explicit" : Str))] (.loc 1),
  .asg [(.attr (.loc 0) ("_txn" : Str))] .none,
  .asg [(.attr (.loc 0) ("_synchs" : Str))] (.call (.st g_WeakSet) [] [] [])]
abbrev f_TransactionManager___init__ : FnE := ⟨690, false, [("self" : Str), ("explicit" : Str)], [.bool false], [.local, .local, .globalImplicit], m_TransactionManager___init__⟩
-- TransactionManager.begin names [self.local, txn.local, AlreadyInTransaction.globalImplicit, Transaction.globalImplicit, _new_transaction.globalImplicit]
abbrev m_TransactionManager_begin : List MS :=
  [.ite (.cmp (.attr (.loc 0) ("_txn" : Str)) [.IsNot] [.none]) [.ite (.attr (.loc 0) ("explicit" : Str)) [.raise (some (.call (.st g_AlreadyInTransaction) [] [] []))] [],
  .expr (.mcall (.attr (.loc 0) ("_txn" : Str)) ("abort" : Str) [] [] [])] [],
  .asg [(.loc 1), (.attr (.loc 0) ("_txn" : Str))] (.call (.st g_Transaction) [(.attr (.loc 0) ("_synchs" : Str)), (.loc 0)] [] []),
  .expr (.call (.st g__new_transaction) [(.loc 1), (.attr (.loc 0) ("_synchs" : Str))] [] []),
  .ret (some (.loc 1))]
abbrev f_TransactionManager_begin : FnE := ⟨697, false, [("self" : Str)], [], [.local, .local, .globalImplicit, .globalImplicit, .globalImplicit], m_TransactionManager_begin⟩
-- TransactionManager.get names [self.local, NoTransaction.globalImplicit, Transaction.globalImplicit]
abbrev m_TransactionManager_get : List MS :=
  [.ite (.cmp (.attr (.loc 0) ("_txn" : Str)) [.Is] [.none]) [.ite (.attr (.loc 0) ("explicit" : Str)) [.raise (some (.call (.st g_NoTransaction) [] [] []))] [],
  .asg [(.attr (.loc 0) ("_txn" : Str))] (.call (.st g_Transaction) [(.attr (.loc 0) ("_synchs" : Str)), (.loc 0)] [] [])] [],
  .ret (some (.attr (.loc 0) ("_txn" : Str)))]
abbrev f_TransactionManager_get : FnE := ⟨711, false, [("self" : Str)], [], [.local, .globalImplicit, .globalImplicit], m_TransactionManager_get⟩
-- TransactionManager.free names [self.local, txn.local, ValueError.globalImplicit]
abbrev m_TransactionManager_free : List MS :=
  [.ite (.cmp (.loc 1) [.IsNot] [(.attr (.loc 0) ("_txn" : Str))]) [.raise (some (.call (.st g_ValueError) [(.str ("Foreign transaction" : Str))] [] []))] [],
  .asg [(.attr (.loc 0) ("_txn" : Str))] .none]
abbrev f_TransactionManager_free : FnE := ⟨718, false, [("self" : Str), ("txn" : Str)], [], [.local, .local, .globalImplicit], m_TransactionManager_free⟩
-- TransactionManager.doom names [self.local]
abbrev m_TransactionManager_doom : List MS :=
  [.ret (some (.mcall (.mcall (.loc 0) ("get" : Str) [] [] []) ("doom" : Str) [] [] []))]
abbrev f_TransactionManager_doom : FnE := ⟨760, false, [("self" : Str)], [], [.local], m_TransactionManager_doom⟩
-- TransactionManager.commit names [self.local]
abbrev m_TransactionManager_commit : List MS :=
  [.ret (some (.mcall (.mcall (.loc 0) ("get" : Str) [] [] []) ("commit" : Str) [] [] []))]
abbrev f_TransactionManager_commit : FnE := ⟨767, false, [("self" : Str)], [], [.local], m_TransactionManager_commit⟩
-- TransactionManager.abort names [self.local]
abbrev m_TransactionManager_abort : List MS :=
  [.ret (some (.mcall (.mcall (.loc 0) ("get" : Str) [] [] []) ("abort" : Str) [] [] []))]
abbrev f_TransactionManager_abort : FnE := ⟨774, false, [("self" : Str)], [], [.local], m_TransactionManager_abort⟩
-- Refusal.__init__ names [self.local, who.local, what.local]
abbrev m_Refusal___init__ : List MS :=
  [.asg [(.attr (.loc 0) ("who" : Str))] (.loc 1),
  .asg [(.attr (.loc 0) ("what" : Str))] (.loc 2)]
abbrev f_Refusal___init__ : FnE := ⟨848, false, [("self" : Str), ("who" : Str), ("what" : Str)], [], [.local, .local, .local], m_Refusal___init__⟩
-- Party.step names [self.local, what.local, transaction.local, kind.local, Refusal.globalImplicit, Passing.globalImplicit]
abbrev m_Party_step : List MS :=
  [.expr (.mcall (.attr (.loc 0) ("log" : Str)) ("append" : Str) [(.tup [(.loc 1), (.attr (.loc 0) ("who" : Str))])] [] []),
  .ite (.cmp (.attr (.loc 0) ("deed" : Str)) [.IsNot] [.none]) [.expr (.mcall (.loc 0) ("deed" : Str) [(.attr (.loc 0) ("who" : Str)), (.loc 1), (.loc 2)] [] [])] [],
  .asg [(.loc 3)] (.mcall (.attr (.loc 0) ("plan" : Str)) ("get" : Str) [(.loc 1), (.int (0))] [] []),
  .ite (.cmp (.loc 3) [.Eq] [(.int (1))]) [.raise (some (.call (.st g_Refusal) [(.attr (.loc 0) ("who" : Str)), (.loc 1)] [] []))] [],
  .ite (.cmp (.loc 3) [.Eq] [(.int (2))]) [.raise (some (.call (.st g_Passing) [(.attr (.loc 0) ("who" : Str)), (.loc 1)] [] []))] []]
abbrev f_Party_step : FnE := ⟨895, false, [("self" : Str), ("what" : Str), ("transaction" : Str)], [], [.local, .local, .local, .local, .globalImplicit, .globalImplicit], m_Party_step⟩
-- PlainManager.__init__ names [self.local, who.local, key.local, plan.local, log.local, deed.local]
abbrev m_PlainManager___init__ : List MS :=
  [.asg [(.attr (.loc 0) ("who" : Str))] (.loc 1),
  .asg [(.attr (.loc 0) ("key" : Str))] (.loc 2),
  .asg [(.attr (.loc 0) ("plan" : Str))] (.loc 3),
  .asg [(.attr (.loc 0) ("log" : Str))] (.loc 4),
  .asg [(.attr (.loc 0) ("deed" : Str))] (.loc 5),
  .asg [(.attr (.loc 0) ("kept" : Str))] (.int (0)),
  .asg [(.attr (.loc 0) ("value" : Str))] (.int (0)),
  .asg [(.attr (.loc 0) ("ready" : Str))] .none]
abbrev f_PlainManager___init__ : FnE := ⟨917, false, [("self" : Str), ("who" : Str), ("key" : Str), ("plan" : Str), ("log" : Str), ("deed" : Str)], [.none], [.local, .local, .local, .local, .local, .local], m_PlainManager___init__⟩
-- PlainManager.sortKey names [self.local]
abbrev m_PlainManager_sortKey : List MS :=
  [.ret (some (.attr (.loc 0) ("key" : Str)))]
abbrev f_PlainManager_sortKey : FnE := ⟨924, false, [("self" : Str)], [], [.local], m_PlainManager_sortKey⟩
-- PlainManager.abort names [self.local, transaction.local]
abbrev m_PlainManager_abort : List MS :=
  [.asg [(.attr (.loc 0) ("value" : Str))] (.attr (.loc 0) ("kept" : Str)),
  .asg [(.attr (.loc 0) ("ready" : Str))] .none,
  .expr (.mcall (.loc 0) ("step" : Str) [(.str ("abort" : Str)), (.loc 1)] [] [])]
abbrev f_PlainManager_abort : FnE := ⟨931, false, [("self" : Str), ("transaction" : Str)], [], [.local, .local], m_PlainManager_abort⟩
-- PlainManager.tpc_begin names [self.local, transaction.local]
abbrev m_PlainManager_tpc_begin : List MS :=
  [.expr (.mcall (.loc 0) ("step" : Str) [(.str ("tpc_begin" : Str)), (.loc 1)] [] [])]
abbrev f_PlainManager_tpc_begin : FnE := ⟨938, false, [("self" : Str), ("transaction" : Str)], [], [.local, .local], m_PlainManager_tpc_begin⟩
-- PlainManager.commit names [self.local, transaction.local]
abbrev m_PlainManager_commit : List MS :=
  [.expr (.mcall (.loc 0) ("step" : Str) [(.str ("commit" : Str)), (.loc 1)] [] []),
  .asg [(.attr (.loc 0) ("ready" : Str))] (.lst [(.attr (.loc 0) ("value" : Str))])]
abbrev f_PlainManager_commit : FnE := ⟨945, false, [("self" : Str), ("transaction" : Str)], [], [.local, .local], m_PlainManager_commit⟩
-- PlainManager.tpc_vote names [self.local, transaction.local]
abbrev m_PlainManager_tpc_vote : List MS :=
  [.expr (.mcall (.loc 0) ("step" : Str) [(.str ("tpc_vote" : Str)), (.loc 1)] [] [])]
abbrev f_PlainManager_tpc_vote : FnE := ⟨952, false, [("self" : Str), ("transaction" : Str)], [], [.local, .local], m_PlainManager_tpc_vote⟩
-- PlainManager.tpc_finish names [self.local, transaction.local]
abbrev m_PlainManager_tpc_finish : List MS :=
  [.expr (.mcall (.loc 0) ("step" : Str) [(.str ("tpc_finish" : Str)), (.loc 1)] [] []),
  .ite (.cmp (.attr (.loc 0) ("ready" : Str)) [.IsNot] [.none]) [.asg [(.attr (.loc 0) ("kept" : Str))] (.sub (.attr (.loc 0) ("ready" : Str)) (.int (0))),
  .asg [(.attr (.loc 0) ("ready" : Str))] .none] []]
abbrev f_PlainManager_tpc_finish : FnE := ⟨959, false, [("self" : Str), ("transaction" : Str)], [], [.local, .local], m_PlainManager_tpc_finish⟩
-- PlainManager.tpc_abort names [self.local, transaction.local]
abbrev m_PlainManager_tpc_abort : List MS :=
  [.asg [(.attr (.loc 0) ("value" : Str))] (.attr (.loc 0) ("kept" : Str)),
  .asg [(.attr (.loc 0) ("ready" : Str))] .none,
  .expr (.mcall (.loc 0) ("step" : Str) [(.str ("tpc_abort" : Str)), (.loc 1)] [] [])]
abbrev f_PlainManager_tpc_abort : FnE := ⟨966, false, [("self" : Str), ("transaction" : Str)], [], [.local, .local], m_PlainManager_tpc_abort⟩
-- _law_rows names [i.cell, kind.local, root.local, rows.local]
abbrev m__law_rows : List MS :=
  [.ite (.cmp (.loc 2) [.Lt] [(.int (0))]) [.ret (some (.comp (.tup [(.loc 1), (.tup [(.cel 3), (.loc 2)])]) [(.mk (.loc 1) (.tup [(.str ("tpc_begin" : Str)), (.str ("commit" : Str)), (.str ("tpc_vote" : Str)), (.str ("tpc_finish" : Str))]) []), (.mk (.loc 2) (.tup [(.int (1)), (.int (0))]) [])] ⟨.function, [((".0" : Str), .local), (("step" : Str), .local), (("k" : Str), .local), (("i" : Str), .free)], false, false, []⟩ [(3, 0)]))] [],
  .asg [(.loc 3)] (.lst []),
  .ite (.bop .And [(.cmp (.loc 1) [.Eq] [(.int (1))]), (.cmp (.loc 2) [.Eq] [(.cel 0)])]) [.asg [(.loc 3)] (.comp (.tup [(.loc 1), (.tup [(.cel 3), (.loc 2)])]) [(.mk (.loc 1) (.tup [(.str ("tpc_begin" : Str)), (.str ("commit" : Str)), (.str ("tpc_vote" : Str))]) []), (.mk (.loc 2) (.tup [(.int (1)), (.int (0))]) [])] ⟨.function, [((".0" : Str), .local), (("step" : Str), .local), (("k" : Str), .local), (("i" : Str), .free)], false, false, []⟩ [(3, 0)]),
  .asg [(.loc 3)] (.bin .Add (.loc 3) (.lst [(.tup [(.str ("abort" : Str)), (.tup [(.cel 0), (.int (0))])]), (.tup [(.str ("tpc_abort" : Str)), (.tup [(.cel 0), (.int (1))])]), (.tup [(.str ("tpc_abort" : Str)), (.tup [(.cel 0), (.int (0))])])]))] [],
  .ret (some (.bin .Add (.loc 3) (.lst [(.tup [(.str ("abort" : Str)), (.tup [(.cel 0), (.int (0))])]), (.tup [(.str ("abort" : Str)), (.tup [(.cel 0), (.int (1))])])])))]
abbrev f__law_rows : FnE := ⟨1030, false, [("i" : Str), ("kind" : Str), ("root" : Str)], [], [.cell, .local, .local, .local], m__law_rows⟩
-- law names [script.local, numbers.local, needs.local, asked.local, kinds.local, roots.cell, i.cell, n.cell, others.local, j.local, failed.local, log.local, _law_need.local, parties.local, txns.local, txn.local, k.local, one.local, t.local, order.cell, row.local, due.local, worth.local, _law_want.cell, centers.cell, ends.cell, len.globalImplicit, range.globalImplicit, Manager.globalImplicit, str.globalImplicit, _law_rows.globalImplicit, sorted.globalImplicit]
abbrev m_law : List MS :=
  [.asg [(.loc 1)] (.comp (.bin .Mod (.loc 1) (.int (768))) [(.mk (.loc 1) (.sub (.loc 0) (.sli none (some (.int (7))))) [])] ⟨.function, [((".0" : Str), .local), (("number" : Str), .local)], false, false, []⟩ []),
  .asg [(.loc 1)] (.bin .Add (.loc 1) (.sub (.lst [(.int (0)), (.int (1)), (.int (3)), (.int (4)), (.int (9)), (.int (16)), (.int (5))]) (.sli (some (.call (.st g_len) [(.loc 1)] [] [])) none))),
  .asg [(.loc 2)] (.lst []),
  .asg [(.loc 3)] (.lst []),
  .asg [(.loc 4)] (.lst []),
  .asg [(.cel 5)] (.lst []),
  .for (.cel 6) (.call (.st g_range) [(.int (6))] [] []) [.asg [(.cel 7)] (.sub (.loc 1) (.cel 6)),
  .asg [(.loc 8)] (.ite (.cmp (.cel 7) [.Lt] [(.int (384))]) (.call (.st g_range) [(.cel 6)] [] []) (.call (.st g_range) [(.bin .Sub (.cel 6) (.int (1))), (.neg (.int (1))), (.neg (.int (1)))] [] [])),
  .expr (.mcall (.loc 2) ("append" : Str) [(.comp (.loc 1) [(.mk (.loc 1) (.loc 8) [(.cmp (.bin .Mod (.bin .FloorDiv (.cel 2) (.bin .Pow (.int (2)) (.loc 1))) (.int (2))) [.Eq] [(.int (1))])])] ⟨.function, [((".0" : Str), .local), (("j" : Str), .local), (("n" : Str), .free)], false, false, []⟩ [(2, 7)])] [] []),
  .expr (.mcall (.loc 4) ("append" : Str) [(.sub (.tup [(.int (0)), (.int (0)), (.int (0)), (.int (0)), (.int (1)), (.int (2))]) (.bin .Mod (.bin .FloorDiv (.cel 7) (.int (64))) (.int (6))))] [] []),
  .asg [(.loc 10)] (.comp (.loc 1) [(.mk (.loc 1) (.sub (.loc 2) (.cel 6)) [(.cmp (.sub (.cel 2) (.loc 1)) [.GtE] [(.int (0))])])] ⟨.function, [((".0" : Str), .local), (("j" : Str), .local), (("roots" : Str), .free)], false, false, []⟩ [(2, 5)]),
  .ite (.cmp (.sub (.loc 4) (.cel 6)) [.Eq] [(.int (2))]) [.expr (.mcall (.loc 3) ("append" : Str) [(.lst [])] [] []),
  .expr (.mcall (.cel 5) ("append" : Str) [(.cel 6)] [] [])] [.ite (.cmp (.loc 10) [.NotEq] [(.lst [])]) [.expr (.mcall (.loc 3) ("append" : Str) [(.sub (.sub (.loc 2) (.cel 6)) (.sli none (some (.bin .Add (.mcall (.sub (.loc 2) (.cel 6)) ("index" : Str) [(.sub (.loc 10) (.int (0)))] [] []) (.int (1))))))] [] []),
  .expr (.mcall (.cel 5) ("append" : Str) [(.sub (.cel 5) (.sub (.loc 10) (.int (0))))] [] [])] [.expr (.mcall (.loc 3) ("append" : Str) [(.sub (.loc 2) (.cel 6))] [] []),
  .expr (.mcall (.cel 5) ("append" : Str) [(.ite (.cmp (.sub (.loc 4) (.cel 6)) [.Eq] [(.int (1))]) (.cel 6) (.neg (.int (1))))] [] [])]]],
  .asg [(.loc 11)] (.lst []),
  .asg [(.cel 25)] (.dct [] []),
  .asg [(.cel 24)] (.comp (.call (.st g_TransactionManager) [] [] []) [(.mk (.loc 1) (.call (.st g_range) [(.int (6))] [] []) [])] ⟨.function, [((".0" : Str), .local), (("i" : Str), .local), (("TransactionManager" : Str), .globalImplicit)], false, false, []⟩ []),
  .defn 40173572 (.cel 23) [25, 24],
  .defn 41025540 (.loc 12) [23],
  .asg [(.loc 13)] (.lst []),
  .asg [(.loc 14)] (.lst []),
  .for (.cel 6) (.call (.st g_range) [(.int (6))] [] []) [.asg [(.loc 15)] (.mcall (.sub (.cel 24) (.cel 6)) ("begin" : Str) [] [] []),
  .expr (.mcall (.loc 14) ("append" : Str) [(.loc 15)] [] []),
  .for (.loc 16) (.tup [(.int (0)), (.int (1))]) [.asg [(.loc 17)] (.call (.st g_Manager) [(.tup [(.cel 6), (.loc 16)]), (.bin .Add (.str ("k" : Str)) (.call (.st g_str) [(.bin .Sub (.int (1)) (.loc 16))] [] [])), (.ite (.bop .And [(.cmp (.sub (.loc 4) (.cel 6)) [.Eq] [(.int (1))]), (.cmp (.loc 16) [.Eq] [(.int (0))])]) (.dct [(.str ("tpc_vote" : Str))] [(.int (1))]) (.dct [] [])), (.loc 11)] [] []),
  .expr (.mcall (.loc 15) ("join" : Str) [(.loc 17)] [] []),
  .asg [(.attr (.loc 17) ("value" : Str))] (.bin .Add (.int (7)) (.cel 6)),
  .expr (.mcall (.loc 13) ("append" : Str) [(.loc 17)] [] [])],
  .for (.loc 9) (.sub (.loc 2) (.cel 6)) [.expr (.mcall (.loc 15) ("addBeforeCommitHook" : Str) [(.loc 12), (.tup [(.loc 9)])] [] [])],
  .ite (.cmp (.sub (.loc 4) (.cel 6)) [.Eq] [(.int (2))]) [.expr (.mcall (.loc 15) ("doom" : Str) [] [] [])] []],
  .for (.loc 18) (.call (.st g_range) [(.int (6))] [] []) [.expr (.call (.cel 23) [(.bin .Mod (.bin .Add (.sub (.loc 1) (.int (6))) (.bin .Mult (.ite (.cmp (.bin .Mod (.bin .FloorDiv (.sub (.loc 1) (.int (6))) (.int (6))) (.int (2))) [.Eq] [(.int (0))]) (.int (1)) (.int (5))) (.loc 18))) (.int (6)))] [] [])],
  .asg [(.cel 19)] (.lst []),
  .for (.loc 20) (.loc 11) [.ite (.cmp (.sub (.sub (.loc 20) (.int (1))) (.int (0))) [.NotIn] [(.cel 19)]) [.expr (.mcall (.cel 19) ("append" : Str) [(.sub (.sub (.loc 20) (.int (1))) (.int (0)))] [] [])] []],
  .asg [(.loc 21)] (.lst []),
  .for (.cel 6) (.cel 19) [.asg [(.loc 21)] (.bin .Add (.loc 21) (.call (.st g__law_rows) [(.cel 6), (.sub (.loc 4) (.cel 6)), (.sub (.cel 5) (.cel 6))] [] []))],
  .ite (.bop .Or [(.cmp (.call (.st g_sorted) [(.cel 19)] [] []) [.NotEq] [(.lst [(.int (0)), (.int (1)), (.int (2)), (.int (3)), (.int (4)), (.int (5))])]), (.cmp (.loc 11) [.NotEq] [(.loc 21)]), (.cmp (.comp (.sub (.cel 2) (.loc 1)) [(.mk (.loc 1) (.call (.st g_range) [(.int (6))] [] []) [])] ⟨.function, [((".0" : Str), .local), (("i" : Str), .local), (("ends" : Str), .free)], false, false, []⟩ [(2, 25)]) [.NotEq] [(.cel 5)])]) [.ret (some (.bool false))] [],
  .for (.cel 6) (.call (.st g_range) [(.int (6))] [] []) [.ite (.bop .Or [(.cmp (.comp (.loc 1) [(.mk (.loc 1) (.sub (.loc 3) (.cel 6)) [(.cmp (.mcall (.cel 3) ("index" : Str) [(.loc 1)] [] []) [.Gt] [(.mcall (.cel 3) ("index" : Str) [(.cel 2)] [] [])])])] ⟨.function, [((".0" : Str), .local), (("j" : Str), .local), (("i" : Str), .free), (("order" : Str), .free)], false, false, []⟩ [(2, 6), (3, 19)]) [.NotEq] [(.lst [])]), (.cmp (.mcall (.sub (.cel 24) (.cel 6)) ("get" : Str) [] [] []) [.Is] [(.sub (.loc 14) (.cel 6))])]) [.ret (some (.bool false))] []],
  .for (.loc 17) (.loc 13) [.asg [(.loc 22)] (.ite (.cmp (.sub (.cel 5) (.sub (.attr (.loc 17) ("who" : Str)) (.int (0)))) [.Lt] [(.int (0))]) (.bin .Add (.int (7)) (.sub (.attr (.loc 17) ("who" : Str)) (.int (0)))) (.int (0))),
  .ite (.bop .Or [(.cmp (.attr (.loc 17) ("kept" : Str)) [.NotEq] [(.loc 22)]), (.cmp (.attr (.loc 17) ("value" : Str)) [.NotEq] [(.loc 22)])]) [.ret (some (.bool false))] []],
  .ret (some (.bool true))]

abbrev f_law : FnE := ⟨1035, true, [("script" : Str)], [], [.local, .local, .local, .local, .local, .cell, .cell, .cell, .local, .local, .local, .local, .local, .local, .local, .local, .local, .local, .local, .cell, .local, .local, .local, .cell, .cell, .cell, .globalImplicit, .globalImplicit, .globalImplicit, .globalImplicit, .globalImplicit, .globalImplicit], m_law⟩
-- law.<locals>._law_want names [i.local, e.local, centers.free, ends.free, Refusal.globalImplicit, DoomedTransaction.globalImplicit]
abbrev m_law_locals__law_want : List MS :=
  [.ite (.cmp (.loc 0) [.NotIn] [(.cel 3)]) [.asg [(.sub (.cel 3) (.loc 0))] (.neg (.int (1))),
  .try [.expr (.mcall (.sub (.cel 2) (.loc 0)) ("commit" : Str) [] [] [])] [(.mk (some (.st g_Refusal)) (some 1) [.asg [(.sub (.cel 3) (.loc 0))] (.sub (.attr (.loc 1) ("who" : Str)) (.int (0)))]), (.mk (some (.st g_DoomedTransaction)) none [.asg [(.sub (.cel 3) (.loc 0))] (.loc 0)])] [] [],
  .ite (.cmp (.sub (.cel 3) (.loc 0)) [.GtE] [(.int (0))]) [.expr (.mcall (.sub (.cel 2) (.loc 0)) ("abort" : Str) [] [] [])] []] [],
  .ret (some (.sub (.cel 3) (.loc 0)))]
abbrev n_law_locals__law_want : NestE := ⟨40173572, [("i" : Str)], .inl m_law_locals__law_want⟩
-- law.<locals>._law_need names [args.local, kws.local, root.local, _law_want.free, Refusal.globalImplicit]
abbrev m_law_locals__law_need : List MS :=
  [.asg [(.loc 2)] (.call (.cel 3) [(.sub (.loc 0) (.int (0)))] [] []),
  .ite (.cmp (.loc 2) [.GtE] [(.int (0))]) [.raise (some (.call (.st g_Refusal) [(.tup [(.loc 2), (.int (0))]), (.str ("need" : Str))] [] []))] []]
abbrev n_law_locals__law_need : NestE := ⟨41025540, [("args" : Str), ("kws" : Str)], .inl m_law_locals__law_need⟩
def FTL : List FnE := [f_WeakSet___init__, f_WeakSet___len__, f_WeakSet_map, f_WeakSet_as_weakref_list, f__makeTracebackBuffer, f_Transaction___init__, f_Transaction_doom, f_Transaction_join, f_Transaction_commit, f_Transaction__saveAndGetCommitishError, f_Transaction_addBeforeCommitHook, f_Transaction__callBeforeCommitHooks, f_Transaction__callAfterCommitHooks, f_Transaction__call_hooks, f_Transaction__callBeforeAbortHooks, f_Transaction__callAfterAbortHooks, f_Transaction__commitResources, f_Transaction__cleanup, f_Transaction__free_manager, f_Transaction__free, f_Transaction_abort, f_rm_key, f__new_transaction, f_TransactionManager___init__, f_TransactionManager_begin, f_TransactionManager_get, f_TransactionManager_free, f_TransactionManager_doom, f_TransactionManager_commit, f_TransactionManager_abort, f_Refusal___init__, f_Party_step, f_PlainManager___init__, f_PlainManager_sortKey, f_PlainManager_abort, f_PlainManager_tpc_begin, f_PlainManager_commit, f_PlainManager_tpc_vote, f_PlainManager_tpc_finish, f_PlainManager_tpc_abort, f__law_rows, f_law]
def NTL : List NestE := [n_law_locals__law_want, n_law_locals__law_need]
noncomputable def rowsA (P : Params) : CR := (chkAll GL (FTL.map (FnE.text (KL P)))).getD []
noncomputable def rowsL (P : Params) : CR := (chkAll GL (FTL.map (FnE.text (KL P)) ++ NTL.map (NestE.text (rowsA P)))).getD []
def tabsL : List Addr := [670, 521, 483, 367, 1032]
theorem gl_ok (P : Params) : globB (KL P) GL = true := by kernel_rfl
theorem ft_ok (P : Params) : FTL.all (FnE.chk (KL P) tabsL) = true := by kernel_rfl
theorem rows_some (P : Params) : (chkAll GL (FTL.map (FnE.text (KL P)) ++ NTL.map (NestE.text (rowsA P)))).isSome = true := by kernel_rfl
theorem rows_nodup (P : Params) : decide (((rowsL P).map fun z => codeKey z.1 z.2.1).Nodup) = true := by kernel_rfl
structure StL (O : Om) : Prop where
  ok : O.Ok
  K : O.K = KL O.w.params
  code : O.code = codeOfRows (rowsL O.w.params)
  qual : O.qualAt = qualOfRows (rowsL O.w.params)
  tabs : O.tabs = tabsL
theorem rows_eq (P : Params) : chkAll GL (FTL.map (FnE.text (KL P)) ++ NTL.map (NestE.text (rowsA P))) = some (rowsL P) := by
  unfold rowsL
  have := rows_some P
  cases q : chkAll GL (FTL.map (FnE.text (KL P)) ++ NTL.map (NestE.text (rowsA P))) with
  | none => rw [q] at this; cases this
  | some l => rfl
section
variable {N : Type} {O : Om}
theorem StL.all (S : StL O) : (∀ e ∈ FTL, FnOk O N e) ∧ ∀ e ∈ NTL, Okc O (chkB GL (NestE.text (rowsA O.w.params) e)) :=
  fn_all (G := GL) (lA := rowsA O.w.params) (l := rowsL O.w.params) S.ok (by rw [S.K]; exact gl_ok _) (by rw [S.K, S.tabs]; exact ft_ok _) (by rw [S.K]; exact rows_eq _) (rows_nodup _) S.code S.qual

theorem F_WeakSet___init__ (S : StL O) : FnOk O N f_WeakSet___init__ := S.all.1 _ (List.mem_of_getElem? (i := 0) rfl)
theorem F_WeakSet___len__ (S : StL O) : FnOk O N f_WeakSet___len__ := S.all.1 _ (List.mem_of_getElem? (i := 1) rfl)
theorem F_WeakSet_map (S : StL O) : FnOk O N f_WeakSet_map := S.all.1 _ (List.mem_of_getElem? (i := 2) rfl)
theorem F_WeakSet_as_weakref_list (S : StL O) : FnOk O N f_WeakSet_as_weakref_list := S.all.1 _ (List.mem_of_getElem? (i := 3) rfl)
theorem F__makeTracebackBuffer (S : StL O) : FnOk O N f__makeTracebackBuffer := S.all.1 _ (List.mem_of_getElem? (i := 4) rfl)
theorem F_Transaction___init__ (S : StL O) : FnOk O N f_Transaction___init__ := S.all.1 _ (List.mem_of_getElem? (i := 5) rfl)
theorem F_Transaction_doom (S : StL O) : FnOk O N f_Transaction_doom := S.all.1 _ (List.mem_of_getElem? (i := 6) rfl)
theorem F_Transaction_join (S : StL O) : FnOk O N f_Transaction_join := S.all.1 _ (List.mem_of_getElem? (i := 7) rfl)
theorem F_Transaction_commit (S : StL O) : FnOk O N f_Transaction_commit := S.all.1 _ (List.mem_of_getElem? (i := 8) rfl)
theorem F_Transaction__saveAndGetCommitishError (S : StL O) : FnOk O N f_Transaction__saveAndGetCommitishError := S.all.1 _ (List.mem_of_getElem? (i := 9) rfl)
theorem F_Transaction_addBeforeCommitHook (S : StL O) : FnOk O N f_Transaction_addBeforeCommitHook := S.all.1 _ (List.mem_of_getElem? (i := 10) rfl)
theorem F_Transaction__callBeforeCommitHooks (S : StL O) : FnOk O N f_Transaction__callBeforeCommitHooks := S.all.1 _ (List.mem_of_getElem? (i := 11) rfl)
theorem F_Transaction__callAfterCommitHooks (S : StL O) : FnOk O N f_Transaction__callAfterCommitHooks := S.all.1 _ (List.mem_of_getElem? (i := 12) rfl)
theorem F_Transaction__call_hooks (S : StL O) : FnOk O N f_Transaction__call_hooks := S.all.1 _ (List.mem_of_getElem? (i := 13) rfl)
theorem F_Transaction__callBeforeAbortHooks (S : StL O) : FnOk O N f_Transaction__callBeforeAbortHooks := S.all.1 _ (List.mem_of_getElem? (i := 14) rfl)
theorem F_Transaction__callAfterAbortHooks (S : StL O) : FnOk O N f_Transaction__callAfterAbortHooks := S.all.1 _ (List.mem_of_getElem? (i := 15) rfl)
theorem F_Transaction__commitResources (S : StL O) : FnOk O N f_Transaction__commitResources := S.all.1 _ (List.mem_of_getElem? (i := 16) rfl)
theorem F_Transaction__cleanup (S : StL O) : FnOk O N f_Transaction__cleanup := S.all.1 _ (List.mem_of_getElem? (i := 17) rfl)
theorem F_Transaction__free_manager (S : StL O) : FnOk O N f_Transaction__free_manager := S.all.1 _ (List.mem_of_getElem? (i := 18) rfl)
theorem F_Transaction__free (S : StL O) : FnOk O N f_Transaction__free := S.all.1 _ (List.mem_of_getElem? (i := 19) rfl)
theorem F_Transaction_abort (S : StL O) : FnOk O N f_Transaction_abort := S.all.1 _ (List.mem_of_getElem? (i := 20) rfl)
theorem F_rm_key (S : StL O) : FnOk O N f_rm_key := S.all.1 _ (List.mem_of_getElem? (i := 21) rfl)
theorem F__new_transaction (S : StL O) : FnOk O N f__new_transaction := S.all.1 _ (List.mem_of_getElem? (i := 22) rfl)
theorem F_TransactionManager___init__ (S : StL O) : FnOk O N f_TransactionManager___init__ := S.all.1 _ (List.mem_of_getElem? (i := 23) rfl)
theorem F_TransactionManager_begin (S : StL O) : FnOk O N f_TransactionManager_begin := S.all.1 _ (List.mem_of_getElem? (i := 24) rfl)
theorem F_TransactionManager_get (S : StL O) : FnOk O N f_TransactionManager_get := S.all.1 _ (List.mem_of_getElem? (i := 25) rfl)
theorem F_TransactionManager_free (S : StL O) : FnOk O N f_TransactionManager_free := S.all.1 _ (List.mem_of_getElem? (i := 26) rfl)
theorem F_TransactionManager_doom (S : StL O) : FnOk O N f_TransactionManager_doom := S.all.1 _ (List.mem_of_getElem? (i := 27) rfl)
theorem F_TransactionManager_commit (S : StL O) : FnOk O N f_TransactionManager_commit := S.all.1 _ (List.mem_of_getElem? (i := 28) rfl)
theorem F_TransactionManager_abort (S : StL O) : FnOk O N f_TransactionManager_abort := S.all.1 _ (List.mem_of_getElem? (i := 29) rfl)
theorem F_Refusal___init__ (S : StL O) : FnOk O N f_Refusal___init__ := S.all.1 _ (List.mem_of_getElem? (i := 30) rfl)
theorem F_Party_step (S : StL O) : FnOk O N f_Party_step := S.all.1 _ (List.mem_of_getElem? (i := 31) rfl)
theorem F_PlainManager___init__ (S : StL O) : FnOk O N f_PlainManager___init__ := S.all.1 _ (List.mem_of_getElem? (i := 32) rfl)
theorem F_PlainManager_sortKey (S : StL O) : FnOk O N f_PlainManager_sortKey := S.all.1 _ (List.mem_of_getElem? (i := 33) rfl)
theorem F_PlainManager_abort (S : StL O) : FnOk O N f_PlainManager_abort := S.all.1 _ (List.mem_of_getElem? (i := 34) rfl)
theorem F_PlainManager_tpc_begin (S : StL O) : FnOk O N f_PlainManager_tpc_begin := S.all.1 _ (List.mem_of_getElem? (i := 35) rfl)
theorem F_PlainManager_commit (S : StL O) : FnOk O N f_PlainManager_commit := S.all.1 _ (List.mem_of_getElem? (i := 36) rfl)
theorem F_PlainManager_tpc_vote (S : StL O) : FnOk O N f_PlainManager_tpc_vote := S.all.1 _ (List.mem_of_getElem? (i := 37) rfl)
theorem F_PlainManager_tpc_finish (S : StL O) : FnOk O N f_PlainManager_tpc_finish := S.all.1 _ (List.mem_of_getElem? (i := 38) rfl)
theorem F_PlainManager_tpc_abort (S : StL O) : FnOk O N f_PlainManager_tpc_abort := S.all.1 _ (List.mem_of_getElem? (i := 39) rfl)
theorem F__law_rows (S : StL O) : FnOk O N f__law_rows := S.all.1 _ (List.mem_of_getElem? (i := 40) rfl)
theorem F_law (S : StL O) : FnOk O N f_law := S.all.1 _ (List.mem_of_getElem? (i := 41) rfl)
end
end Mine
namespace Mine
section
variable {N : Type} {O : Om} {c : Cx N} {ρ : Loc N} {σ : Sto N} {Q X : V N → Sto N → Prop}
theorem fnL (S : StL O) {e : FnE} (he : e ∈ FTL) : FnOk O N e := S.all.1 e he
theorem st_ACTIVE (S : StL O) {e : Bool} (h : Q (.st s_ACTIVE) σ) : P1 O c (fun o => getAttr o ("ACTIVE" : Str) e) (.st g_Status) ρ σ Q X := .cls S.ok (by rw [S.K]; kernel_rfl) h
theorem st_COMMITTING (S : StL O) {e : Bool} (h : Q (.st s_COMMITTING) σ) : P1 O c (fun o => getAttr o ("COMMITTING" : Str) e) (.st g_Status) ρ σ Q X := .cls S.ok (by rw [S.K]; kernel_rfl) h
theorem st_COMMITTED (S : StL O) {e : Bool} (h : Q (.st s_COMMITTED) σ) : P1 O c (fun o => getAttr o ("COMMITTED" : Str) e) (.st g_Status) ρ σ Q X := .cls S.ok (by rw [S.K]; kernel_rfl) h
theorem st_DOOMED (S : StL O) {e : Bool} (h : Q (.st s_DOOMED) σ) : P1 O c (fun o => getAttr o ("DOOMED" : Str) e) (.st g_Status) ρ σ Q X := .cls S.ok (by rw [S.K]; kernel_rfl) h
theorem st_COMMITFAILED (S : StL O) {e : Bool} (h : Q (.st s_COMMITFAILED) σ) : P1 O c (fun o => getAttr o ("COMMITFAILED" : Str) e) (.st g_Status) ρ σ Q X := .cls S.ok (by rw [S.K]; kernel_rfl) h
/-- a class attribute None, asked at an instance -/
def clsNoneB (K : Frag) (C : Addr) (x : Str) : Bool := isFnd (findIn K (.ref C) x) (some .none) && isFnd (specialIn K .none "__get__") none && !copiedNames.contains x
theorem P1.getN {n : N} {C : Addr} {ns : List Str} {vs : List (V N)} {x : Str} {e : Bool} (ok : O.Ok) (hσ : σ n = some (.inst C ns vs)) (hg : fget ns vs x = none) (hc : ClsOk O C) (h1 : clsNoneB O.K C x = true) (h : Q .none σ) : P1 O c (fun o => getAttr o x e) (.ref n) ρ σ Q X := by
  unfold clsNoneB isFnd at h1
  simp only [Bool.and_eq_true, decide_eq_true_eq, Bool.not_eq_true'] at h1
  exact .getC ok hc hσ h1.1.1 h1.1.2 rfl h1.2 hg (fun T => by unfold VRep; rfl) h
theorem PM.instR {x : Str} {n : N} {C f : Addr} {ns : List Str} {vs : List (V N)} {Q : V N → List (V N) → Sto N → Prop} (ok : O.Ok) (hσ : σ n = some (.inst C ns vs)) (hg : fget ns vs x = Option.none) (hc : ClsOk O C) (hf : (isFnd (findIn O.K (.ref C) x) (some (.ref f)) && decide (typeIn O.K (.ref f) = some (.type "function"))) = true) (h : Q (.st (.ref f)) [.ref n] σ) : PM O c x (.ref n) ρ σ Q X := by
  unfold isFnd at hf
  rw [Bool.and_eq_true, decide_eq_true_eq, decide_eq_true_eq] at hf
  exact .inst ok hc hσ hf.1 hf.2 hg h
end
end Mine
namespace Mine
section
variable {N : Type} {O : Om} {c : Cx N} {ρ : Loc N} {σ : Sto N} {Q X : V N → Sto N → Prop}
theorem AE.me {m : ME} (h : AE O c m ρ σ Q X) : AE O c m ρ σ Q X := h
theorem AT.me {m : ME} {Q : Bool → Sto N → Prop} (h : AT O c m ρ σ Q X) : AT O c m ρ σ Q X := h
theorem AS.me {m : MS} {Q : AF N → Loc N → Sto N → Prop} {X : V N → Loc N → Sto N → Prop} (h : AS O c m ρ σ Q X) : AS O c m ρ σ Q X := h
theorem ATg.me {t : MT} {v : V N} {Q : Loc N → Sto N → Prop} {X : V N → Loc N → Sto N → Prop} (h : ATg O c t v ρ σ Q X) : ATg O c t v ρ σ Q X := h
theorem P1B.me {f : Value → Sem Bool} {x : V N} {Q : Bool → Sto N → Prop} (h : P1B O c f x ρ σ Q X) : P1B O c f x ρ σ Q X := h
theorem P2.me {f : Value → Value → Sem Value} {x y : V N} (h : P2 O c f x y ρ σ Q X) : P2 O c f x y ρ σ Q X := h
theorem AEl.nil {Q : List (V N) → Sto N → Prop} (h : Q [] σ) : AEl O c [] ρ σ Q X := by unfold AEl; exact h
theorem AEl.cons {m : ME} {ms : List ME} {Q : List (V N) → Sto N → Prop} (h : AE O c m ρ σ (fun v σ₁ => AEl O c ms ρ σ₁ (fun vs σ₂ => Q (v :: vs) σ₂) X) X) : AEl O c (m :: ms) ρ σ Q X := by unfold AEl; exact h
theorem P1.me {f : Value → Sem Value} {x : V N} (h : P1 O c f x ρ σ Q X) : P1 O c f x ρ σ Q X := h
theorem P2U.me {f : Value → Value → Sem Unit} {x y : V N} {Q : Sto N → Prop} (h : P2U O c f x y ρ σ Q X) : P2U O c f x y ρ σ Q X := h
theorem PM.me {x : Str} {v : V N} {Q : V N → List (V N) → Sto N → Prop} (h : PM O c x v ρ σ Q X) : PM O c x v ρ σ Q X := h
theorem QFin.me {f : List MS} {Q : AF N → Loc N → Sto N → Prop} {X : V N → Loc N → Sto N → Prop} {af : AF N} (h : AX O c f ρ σ (fun af' ρ σ => match af' with | .next => Q af ρ σ | g => Q g ρ σ) X) : QFin O c f Q X af ρ σ := h
theorem XFin.me {f : List MS} {Q : AF N → Loc N → Sto N → Prop} {X : V N → Loc N → Sto N → Prop} {v : V N} (h : AX O { c with hd := .ex v } f ρ σ (fun af' ρ σ => match af' with | .next => X v ρ σ | g => Q g ρ σ) X) : XFin O c f Q X v ρ σ := h
theorem fput_new {α : Type} {x : Str} {v : α} : ∀ {ns : List Str} {vs : List α}, ns.contains x = false → vs.length = ns.length → fputN ns x = ns ++ [x] ∧ fputV ns vs x v = vs ++ [v]
  | [], [], _, _ => ⟨rfl, rfl⟩
  | n :: ns, w :: vs, h, hl => by
    rw [List.contains_cons, Bool.or_eq_false_iff] at h
    have hne : n ≠ x := fun e => by rw [e] at h; simp at h
    obtain ⟨i1, i2⟩ := fput_new (v := v) (ns := ns) (vs := vs) h.2 (by simpa using hl)
    refine ⟨?_, ?_⟩
    · unfold fputN; rw [if_neg hne, i1]; rfl
    · unfold fputV; rw [if_neg hne, i2]; rfl
  | [], _ :: _, _, hl => by simp at hl
  | _ :: _, [], _, hl => by simp at hl
theorem P2U.setNew {n : N} {C : Addr} {ns : List Str} {vs : List (V N)} {x : Str} {v : V N} {Q : Sto N → Prop} (ok : O.Ok) (hσ : σ n = some (.inst C ns vs)) (hx : ns.contains x = false) (hl : vs.length = ns.length) (hz : Nat.ble ns.length 900 = true) (hc : ClsOk O C) (ha : AttrOk O C x) (h : Q (σ.set n (.inst C (ns ++ [x]) (vs ++ [v])))) : P2U O c (fun o v => setAttr o x v) (.ref n) v ρ σ Q X := by
  obtain ⟨e1, e2⟩ := fput_new (v := v) hx hl
  refine .set ok hc hσ ha (Nat.le_of_ble_eq_true hz) ?_
  rw [e1, e2]; exact h
end
end Mine
namespace Mine
section
variable {N : Type} {O : Om} {c : Cx N} {ρ : Loc N} {σ : Sto N} {Q X : V N → Sto N → Prop}
theorem cls_Transaction (S : StL O) : ClsOk O C_Transaction := clsB_ok (by rw [S.K]; kernel_rfl)
theorem at_Transaction_status (S : StL O) : AttrOk O C_Transaction ("status" : Str) := attrB_ok (by rw [S.K]; kernel_rfl)
theorem g_Transaction_status (S : StL O) {n : N} {a0 a1 a2 a3 a4 a5 a6 a7 a8 a9 a10 a11 : V N} {e : Bool} (h1 : σ n = some (.inst C_Transaction [("status" : Str), ("_resources" : Str), ("_synchronizers" : Str), ("_manager" : Str), ("_adapters" : Str), ("_voted" : Str), ("extension" : Str), ("_failure_traceback" : Str), ("_before_commit" : Str), ("_after_commit" : Str), ("_before_abort" : Str), ("_after_abort" : Str)] [a0, a1, a2, a3, a4, a5, a6, a7, a8, a9, a10, a11])) (hh : a0.hands = true) (h : Q a0 σ) : P1 O c (fun o => getAttr o ("status" : Str) e) (.ref n) ρ σ Q X := .get S.ok (cls_Transaction S) h1 (at_Transaction_status S) (by kernel_rfl) hh h
theorem s_Transaction_status (S : StL O) {n : N} {a0 a1 a2 a3 a4 a5 a6 a7 a8 a9 a10 a11 : V N} {u : V N} {Q : Sto N → Prop} (h1 : σ n = some (.inst C_Transaction [("status" : Str), ("_resources" : Str), ("_synchronizers" : Str), ("_manager" : Str), ("_adapters" : Str), ("_voted" : Str), ("extension" : Str), ("_failure_traceback" : Str), ("_before_commit" : Str), ("_after_commit" : Str), ("_before_abort" : Str), ("_after_abort" : Str)] [a0, a1, a2, a3, a4, a5, a6, a7, a8, a9, a10, a11])) (h : Q (σ.set n (.inst C_Transaction [("status" : Str), ("_resources" : Str), ("_synchronizers" : Str), ("_manager" : Str), ("_adapters" : Str), ("_voted" : Str), ("extension" : Str), ("_failure_traceback" : Str), ("_before_commit" : Str), ("_after_commit" : Str), ("_before_abort" : Str), ("_after_abort" : Str)] [u, a1, a2, a3, a4, a5, a6, a7, a8, a9, a10, a11]))) : P2U O c (fun o v => setAttr o ("status" : Str) v) (.ref n) u ρ σ Q X := .set S.ok (cls_Transaction S) h1 (at_Transaction_status S) (Nat.le_of_ble_eq_true (by kernel_rfl)) (by rw [show fputN [("status" : Str), ("_resources" : Str), ("_synchronizers" : Str), ("_manager" : Str), ("_adapters" : Str), ("_voted" : Str), ("extension" : Str), ("_failure_traceback" : Str), ("_before_commit" : Str), ("_after_commit" : Str), ("_before_abort" : Str), ("_after_abort" : Str)] ("status" : Str) = [("status" : Str), ("_resources" : Str), ("_synchronizers" : Str), ("_manager" : Str), ("_adapters" : Str), ("_voted" : Str), ("extension" : Str), ("_failure_traceback" : Str), ("_before_commit" : Str), ("_after_commit" : Str), ("_before_abort" : Str), ("_after_abort" : Str)] from by kernel_rfl, show fputV [("status" : Str), ("_resources" : Str), ("_synchronizers" : Str), ("_manager" : Str), ("_adapters" : Str), ("_voted" : Str), ("extension" : Str), ("_failure_traceback" : Str), ("_before_commit" : Str), ("_after_commit" : Str), ("_before_abort" : Str), ("_after_abort" : Str)] [a0, a1, a2, a3, a4, a5, a6, a7, a8, a9, a10, a11] ("status" : Str) u = [u, a1, a2, a3, a4, a5, a6, a7, a8, a9, a10, a11] from by kernel_rfl]; exact h)
theorem n_Transaction_status (S : StL O) {n : N} {ns : List Str} {vs : List (V N)} {u : V N} {Q : Sto N → Prop} (h1 : σ n = some (.inst C_Transaction ns vs)) (hx : ns.contains ("status" : Str) = false) (hl : vs.length = ns.length) (hz : Nat.ble ns.length 900 = true) (h : Q (σ.set n (.inst C_Transaction (ns ++ [("status" : Str)]) (vs ++ [u])))) : P2U O c (fun o v => setAttr o ("status" : Str) v) (.ref n) u ρ σ Q X := .setNew S.ok h1 hx hl hz (cls_Transaction S) (at_Transaction_status S) h
theorem at_Transaction_resources (S : StL O) : AttrOk O C_Transaction ("_resources" : Str) := attrB_ok (by rw [S.K]; kernel_rfl)
theorem g_Transaction_resources (S : StL O) {n : N} {a0 a1 a2 a3 a4 a5 a6 a7 a8 a9 a10 a11 : V N} {e : Bool} (h1 : σ n = some (.inst C_Transaction [("status" : Str), ("_resources" : Str), ("_synchronizers" : Str), ("_manager" : Str), ("_adapters" : Str), ("_voted" : Str), ("extension" : Str), ("_failure_traceback" : Str), ("_before_commit" : Str), ("_after_commit" : Str), ("_before_abort" : Str), ("_after_abort" : Str)] [a0, a1, a2, a3, a4, a5, a6, a7, a8, a9, a10, a11])) (hh : a1.hands = true) (h : Q a1 σ) : P1 O c (fun o => getAttr o ("_resources" : Str) e) (.ref n) ρ σ Q X := .get S.ok (cls_Transaction S) h1 (at_Transaction_resources S) (by kernel_rfl) hh h
theorem s_Transaction_resources (S : StL O) {n : N} {a0 a1 a2 a3 a4 a5 a6 a7 a8 a9 a10 a11 : V N} {u : V N} {Q : Sto N → Prop} (h1 : σ n = some (.inst C_Transaction [("status" : Str), ("_resources" : Str), ("_synchronizers" : Str), ("_manager" : Str), ("_adapters" : Str), ("_voted" : Str), ("extension" : Str), ("_failure_traceback" : Str), ("_before_commit" : Str), ("_after_commit" : Str), ("_before_abort" : Str), ("_after_abort" : Str)] [a0, a1, a2, a3, a4, a5, a6, a7, a8, a9, a10, a11])) (h : Q (σ.set n (.inst C_Transaction [("status" : Str), ("_resources" : Str), ("_synchronizers" : Str), ("_manager" : Str), ("_adapters" : Str), ("_voted" : Str), ("extension" : Str), ("_failure_traceback" : Str), ("_before_commit" : Str), ("_after_commit" : Str), ("_before_abort" : Str), ("_after_abort" : Str)] [a0, u, a2, a3, a4, a5, a6, a7, a8, a9, a10, a11]))) : P2U O c (fun o v => setAttr o ("_resources" : Str) v) (.ref n) u ρ σ Q X := .set S.ok (cls_Transaction S) h1 (at_Transaction_resources S) (Nat.le_of_ble_eq_true (by kernel_rfl)) (by rw [show fputN [("status" : Str), ("_resources" : Str), ("_synchronizers" : Str), ("_manager" : Str), ("_adapters" : Str), ("_voted" : Str), ("extension" : Str), ("_failure_traceback" : Str), ("_before_commit" : Str), ("_after_commit" : Str), ("_before_abort" : Str), ("_after_abort" : Str)] ("_resources" : Str) = [("status" : Str), ("_resources" : Str), ("_synchronizers" : Str), ("_manager" : Str), ("_adapters" : Str), ("_voted" : Str), ("extension" : Str), ("_failure_traceback" : Str), ("_before_commit" : Str), ("_after_commit" : Str), ("_before_abort" : Str), ("_after_abort" : Str)] from by kernel_rfl, show fputV [("status" : Str), ("_resources" : Str), ("_synchronizers" : Str), ("_manager" : Str), ("_adapters" : Str), ("_voted" : Str), ("extension" : Str), ("_failure_traceback" : Str), ("_before_commit" : Str), ("_after_commit" : Str), ("_before_abort" : Str), ("_after_abort" : Str)] [a0, a1, a2, a3, a4, a5, a6, a7, a8, a9, a10, a11] ("_resources" : Str) u = [a0, u, a2, a3, a4, a5, a6, a7, a8, a9, a10, a11] from by kernel_rfl]; exact h)
theorem n_Transaction_resources (S : StL O) {n : N} {ns : List Str} {vs : List (V N)} {u : V N} {Q : Sto N → Prop} (h1 : σ n = some (.inst C_Transaction ns vs)) (hx : ns.contains ("_resources" : Str) = false) (hl : vs.length = ns.length) (hz : Nat.ble ns.length 900 = true) (h : Q (σ.set n (.inst C_Transaction (ns ++ [("_resources" : Str)]) (vs ++ [u])))) : P2U O c (fun o v => setAttr o ("_resources" : Str) v) (.ref n) u ρ σ Q X := .setNew S.ok h1 hx hl hz (cls_Transaction S) (at_Transaction_resources S) h
theorem at_Transaction_synchronizers (S : StL O) : AttrOk O C_Transaction ("_synchronizers" : Str) := attrB_ok (by rw [S.K]; kernel_rfl)
theorem g_Transaction_synchronizers (S : StL O) {n : N} {a0 a1 a2 a3 a4 a5 a6 a7 a8 a9 a10 a11 : V N} {e : Bool} (h1 : σ n = some (.inst C_Transaction [("status" : Str), ("_resources" : Str), ("_synchronizers" : Str), ("_manager" : Str), ("_adapters" : Str), ("_voted" : Str), ("extension" : Str), ("_failure_traceback" : Str), ("_before_commit" : Str), ("_after_commit" : Str), ("_before_abort" : Str), ("_after_abort" : Str)] [a0, a1, a2, a3, a4, a5, a6, a7, a8, a9, a10, a11])) (hh : a2.hands = true) (h : Q a2 σ) : P1 O c (fun o => getAttr o ("_synchronizers" : Str) e) (.ref n) ρ σ Q X := .get S.ok (cls_Transaction S) h1 (at_Transaction_synchronizers S) (by kernel_rfl) hh h
theorem s_Transaction_synchronizers (S : StL O) {n : N} {a0 a1 a2 a3 a4 a5 a6 a7 a8 a9 a10 a11 : V N} {u : V N} {Q : Sto N → Prop} (h1 : σ n = some (.inst C_Transaction [("status" : Str), ("_resources" : Str), ("_synchronizers" : Str), ("_manager" : Str), ("_adapters" : Str), ("_voted" : Str), ("extension" : Str), ("_failure_traceback" : Str), ("_before_commit" : Str), ("_after_commit" : Str), ("_before_abort" : Str), ("_after_abort" : Str)] [a0, a1, a2, a3, a4, a5, a6, a7, a8, a9, a10, a11])) (h : Q (σ.set n (.inst C_Transaction [("status" : Str), ("_resources" : Str), ("_synchronizers" : Str), ("_manager" : Str), ("_adapters" : Str), ("_voted" : Str), ("extension" : Str), ("_failure_traceback" : Str), ("_before_commit" : Str), ("_after_commit" : Str), ("_before_abort" : Str), ("_after_abort" : Str)] [a0, a1, u, a3, a4, a5, a6, a7, a8, a9, a10, a11]))) : P2U O c (fun o v => setAttr o ("_synchronizers" : Str) v) (.ref n) u ρ σ Q X := .set S.ok (cls_Transaction S) h1 (at_Transaction_synchronizers S) (Nat.le_of_ble_eq_true (by kernel_rfl)) (by rw [show fputN [("status" : Str), ("_resources" : Str), ("_synchronizers" : Str), ("_manager" : Str), ("_adapters" : Str), ("_voted" : Str), ("extension" : Str), ("_failure_traceback" : Str), ("_before_commit" : Str), ("_after_commit" : Str), ("_before_abort" : Str), ("_after_abort" : Str)] ("_synchronizers" : Str) = [("status" : Str), ("_resources" : Str), ("_synchronizers" : Str), ("_manager" : Str), ("_adapters" : Str), ("_voted" : Str), ("extension" : Str), ("_failure_traceback" : Str), ("_before_commit" : Str), ("_after_commit" : Str), ("_before_abort" : Str), ("_after_abort" : Str)] from by kernel_rfl, show fputV [("status" : Str), ("_resources" : Str), ("_synchronizers" : Str), ("_manager" : Str), ("_adapters" : Str), ("_voted" : Str), ("extension" : Str), ("_failure_traceback" : Str), ("_before_commit" : Str), ("_after_commit" : Str), ("_before_abort" : Str), ("_after_abort" : Str)] [a0, a1, a2, a3, a4, a5, a6, a7, a8, a9, a10, a11] ("_synchronizers" : Str) u = [a0, a1, u, a3, a4, a5, a6, a7, a8, a9, a10, a11] from by kernel_rfl]; exact h)
theorem n_Transaction_synchronizers (S : StL O) {n : N} {ns : List Str} {vs : List (V N)} {u : V N} {Q : Sto N → Prop} (h1 : σ n = some (.inst C_Transaction ns vs)) (hx : ns.contains ("_synchronizers" : Str) = false) (hl : vs.length = ns.length) (hz : Nat.ble ns.length 900 = true) (h : Q (σ.set n (.inst C_Transaction (ns ++ [("_synchronizers" : Str)]) (vs ++ [u])))) : P2U O c (fun o v => setAttr o ("_synchronizers" : Str) v) (.ref n) u ρ σ Q X := .setNew S.ok h1 hx hl hz (cls_Transaction S) (at_Transaction_synchronizers S) h
theorem at_Transaction_manager (S : StL O) : AttrOk O C_Transaction ("_manager" : Str) := attrB_ok (by rw [S.K]; kernel_rfl)
theorem g_Transaction_manager (S : StL O) {n : N} {a0 a1 a2 a3 a4 a5 a6 a7 a8 a9 a10 a11 : V N} {e : Bool} (h1 : σ n = some (.inst C_Transaction [("status" : Str), ("_resources" : Str), ("_synchronizers" : Str), ("_manager" : Str), ("_adapters" : Str), ("_voted" : Str), ("extension" : Str), ("_failure_traceback" : Str), ("_before_commit" : Str), ("_after_commit" : Str), ("_before_abort" : Str), ("_after_abort" : Str)] [a0, a1, a2, a3, a4, a5, a6, a7, a8, a9, a10, a11])) (hh : a3.hands = true) (h : Q a3 σ) : P1 O c (fun o => getAttr o ("_manager" : Str) e) (.ref n) ρ σ Q X := .get S.ok (cls_Transaction S) h1 (at_Transaction_manager S) (by kernel_rfl) hh h
theorem s_Transaction_manager (S : StL O) {n : N} {a0 a1 a2 a3 a4 a5 a6 a7 a8 a9 a10 a11 : V N} {u : V N} {Q : Sto N → Prop} (h1 : σ n = some (.inst C_Transaction [("status" : Str), ("_resources" : Str), ("_synchronizers" : Str), ("_manager" : Str), ("_adapters" : Str), ("_voted" : Str), ("extension" : Str), ("_failure_traceback" : Str), ("_before_commit" : Str), ("_after_commit" : Str), ("_before_abort" : Str), ("_after_abort" : Str)] [a0, a1, a2, a3, a4, a5, a6, a7, a8, a9, a10, a11])) (h : Q (σ.set n (.inst C_Transaction [("status" : Str), ("_resources" : Str), ("_synchronizers" : Str), ("_manager" : Str), ("_adapters" : Str), ("_voted" : Str), ("extension" : Str), ("_failure_traceback" : Str), ("_before_commit" : Str), ("_after_commit" : Str), ("_before_abort" : Str), ("_after_abort" : Str)] [a0, a1, a2, u, a4, a5, a6, a7, a8, a9, a10, a11]))) : P2U O c (fun o v => setAttr o ("_manager" : Str) v) (.ref n) u ρ σ Q X := .set S.ok (cls_Transaction S) h1 (at_Transaction_manager S) (Nat.le_of_ble_eq_true (by kernel_rfl)) (by rw [show fputN [("status" : Str), ("_resources" : Str), ("_synchronizers" : Str), ("_manager" : Str), ("_adapters" : Str), ("_voted" : Str), ("extension" : Str), ("_failure_traceback" : Str), ("_before_commit" : Str), ("_after_commit" : Str), ("_before_abort" : Str), ("_after_abort" : Str)] ("_manager" : Str) = [("status" : Str), ("_resources" : Str), ("_synchronizers" : Str), ("_manager" : Str), ("_adapters" : Str), ("_voted" : Str), ("extension" : Str), ("_failure_traceback" : Str), ("_before_commit" : Str), ("_after_commit" : Str), ("_before_abort" : Str), ("_after_abort" : Str)] from by kernel_rfl, show fputV [("status" : Str), ("_resources" : Str), ("_synchronizers" : Str), ("_manager" : Str), ("_adapters" : Str), ("_voted" : Str), ("extension" : Str), ("_failure_traceback" : Str), ("_before_commit" : Str), ("_after_commit" : Str), ("_before_abort" : Str), ("_after_abort" : Str)] [a0, a1, a2, a3, a4, a5, a6, a7, a8, a9, a10, a11] ("_manager" : Str) u = [a0, a1, a2, u, a4, a5, a6, a7, a8, a9, a10, a11] from by kernel_rfl]; exact h)
theorem n_Transaction_manager (S : StL O) {n : N} {ns : List Str} {vs : List (V N)} {u : V N} {Q : Sto N → Prop} (h1 : σ n = some (.inst C_Transaction ns vs)) (hx : ns.contains ("_manager" : Str) = false) (hl : vs.length = ns.length) (hz : Nat.ble ns.length 900 = true) (h : Q (σ.set n (.inst C_Transaction (ns ++ [("_manager" : Str)]) (vs ++ [u])))) : P2U O c (fun o v => setAttr o ("_manager" : Str) v) (.ref n) u ρ σ Q X := .setNew S.ok h1 hx hl hz (cls_Transaction S) (at_Transaction_manager S) h
theorem at_Transaction_adapters (S : StL O) : AttrOk O C_Transaction ("_adapters" : Str) := attrB_ok (by rw [S.K]; kernel_rfl)
theorem g_Transaction_adapters (S : StL O) {n : N} {a0 a1 a2 a3 a4 a5 a6 a7 a8 a9 a10 a11 : V N} {e : Bool} (h1 : σ n = some (.inst C_Transaction [("status" : Str), ("_resources" : Str), ("_synchronizers" : Str), ("_manager" : Str), ("_adapters" : Str), ("_voted" : Str), ("extension" : Str), ("_failure_traceback" : Str), ("_before_commit" : Str), ("_after_commit" : Str), ("_before_abort" : Str), ("_after_abort" : Str)] [a0, a1, a2, a3, a4, a5, a6, a7, a8, a9, a10, a11])) (hh : a4.hands = true) (h : Q a4 σ) : P1 O c (fun o => getAttr o ("_adapters" : Str) e) (.ref n) ρ σ Q X := .get S.ok (cls_Transaction S) h1 (at_Transaction_adapters S) (by kernel_rfl) hh h
theorem s_Transaction_adapters (S : StL O) {n : N} {a0 a1 a2 a3 a4 a5 a6 a7 a8 a9 a10 a11 : V N} {u : V N} {Q : Sto N → Prop} (h1 : σ n = some (.inst C_Transaction [("status" : Str), ("_resources" : Str), ("_synchronizers" : Str), ("_manager" : Str), ("_adapters" : Str), ("_voted" : Str), ("extension" : Str), ("_failure_traceback" : Str), ("_before_commit" : Str), ("_after_commit" : Str), ("_before_abort" : Str), ("_after_abort" : Str)] [a0, a1, a2, a3, a4, a5, a6, a7, a8, a9, a10, a11])) (h : Q (σ.set n (.inst C_Transaction [("status" : Str), ("_resources" : Str), ("_synchronizers" : Str), ("_manager" : Str), ("_adapters" : Str), ("_voted" : Str), ("extension" : Str), ("_failure_traceback" : Str), ("_before_commit" : Str), ("_after_commit" : Str), ("_before_abort" : Str), ("_after_abort" : Str)] [a0, a1, a2, a3, u, a5, a6, a7, a8, a9, a10, a11]))) : P2U O c (fun o v => setAttr o ("_adapters" : Str) v) (.ref n) u ρ σ Q X := .set S.ok (cls_Transaction S) h1 (at_Transaction_adapters S) (Nat.le_of_ble_eq_true (by kernel_rfl)) (by rw [show fputN [("status" : Str), ("_resources" : Str), ("_synchronizers" : Str), ("_manager" : Str), ("_adapters" : Str), ("_voted" : Str), ("extension" : Str), ("_failure_traceback" : Str), ("_before_commit" : Str), ("_after_commit" : Str), ("_before_abort" : Str), ("_after_abort" : Str)] ("_adapters" : Str) = [("status" : Str), ("_resources" : Str), ("_synchronizers" : Str), ("_manager" : Str), ("_adapters" : Str), ("_voted" : Str), ("extension" : Str), ("_failure_traceback" : Str), ("_before_commit" : Str), ("_after_commit" : Str), ("_before_abort" : Str), ("_after_abort" : Str)] from by kernel_rfl, show fputV [("status" : Str), ("_resources" : Str), ("_synchronizers" : Str), ("_manager" : Str), ("_adapters" : Str), ("_voted" : Str), ("extension" : Str), ("_failure_traceback" : Str), ("_before_commit" : Str), ("_after_commit" : Str), ("_before_abort" : Str), ("_after_abort" : Str)] [a0, a1, a2, a3, a4, a5, a6, a7, a8, a9, a10, a11] ("_adapters" : Str) u = [a0, a1, a2, a3, u, a5, a6, a7, a8, a9, a10, a11] from by kernel_rfl]; exact h)
theorem n_Transaction_adapters (S : StL O) {n : N} {ns : List Str} {vs : List (V N)} {u : V N} {Q : Sto N → Prop} (h1 : σ n = some (.inst C_Transaction ns vs)) (hx : ns.contains ("_adapters" : Str) = false) (hl : vs.length = ns.length) (hz : Nat.ble ns.length 900 = true) (h : Q (σ.set n (.inst C_Transaction (ns ++ [("_adapters" : Str)]) (vs ++ [u])))) : P2U O c (fun o v => setAttr o ("_adapters" : Str) v) (.ref n) u ρ σ Q X := .setNew S.ok h1 hx hl hz (cls_Transaction S) (at_Transaction_adapters S) h
theorem at_Transaction_voted (S : StL O) : AttrOk O C_Transaction ("_voted" : Str) := attrB_ok (by rw [S.K]; kernel_rfl)
theorem g_Transaction_voted (S : StL O) {n : N} {a0 a1 a2 a3 a4 a5 a6 a7 a8 a9 a10 a11 : V N} {e : Bool} (h1 : σ n = some (.inst C_Transaction [("status" : Str), ("_resources" : Str), ("_synchronizers" : Str), ("_manager" : Str), ("_adapters" : Str), ("_voted" : Str), ("extension" : Str), ("_failure_traceback" : Str), ("_before_commit" : Str), ("_after_commit" : Str), ("_before_abort" : Str), ("_after_abort" : Str)] [a0, a1, a2, a3, a4, a5, a6, a7, a8, a9, a10, a11])) (hh : a5.hands = true) (h : Q a5 σ) : P1 O c (fun o => getAttr o ("_voted" : Str) e) (.ref n) ρ σ Q X := .get S.ok (cls_Transaction S) h1 (at_Transaction_voted S) (by kernel_rfl) hh h
theorem s_Transaction_voted (S : StL O) {n : N} {a0 a1 a2 a3 a4 a5 a6 a7 a8 a9 a10 a11 : V N} {u : V N} {Q : Sto N → Prop} (h1 : σ n = some (.inst C_Transaction [("status" : Str), ("_resources" : Str), ("_synchronizers" : Str), ("_manager" : Str), ("_adapters" : Str), ("_voted" : Str), ("extension" : Str), ("_failure_traceback" : Str), ("_before_commit" : Str), ("_after_commit" : Str), ("_before_abort" : Str), ("_after_abort" : Str)] [a0, a1, a2, a3, a4, a5, a6, a7, a8, a9, a10, a11])) (h : Q (σ.set n (.inst C_Transaction [("status" : Str), ("_resources" : Str), ("_synchronizers" : Str), ("_manager" : Str), ("_adapters" : Str), ("_voted" : Str), ("extension" : Str), ("_failure_traceback" : Str), ("_before_commit" : Str), ("_after_commit" : Str), ("_before_abort" : Str), ("_after_abort" : Str)] [a0, a1, a2, a3, a4, u, a6, a7, a8, a9, a10, a11]))) : P2U O c (fun o v => setAttr o ("_voted" : Str) v) (.ref n) u ρ σ Q X := .set S.ok (cls_Transaction S) h1 (at_Transaction_voted S) (Nat.le_of_ble_eq_true (by kernel_rfl)) (by rw [show fputN [("status" : Str), ("_resources" : Str), ("_synchronizers" : Str), ("_manager" : Str), ("_adapters" : Str), ("_voted" : Str), ("extension" : Str), ("_failure_traceback" : Str), ("_before_commit" : Str), ("_after_commit" : Str), ("_before_abort" : Str), ("_after_abort" : Str)] ("_voted" : Str) = [("status" : Str), ("_resources" : Str), ("_synchronizers" : Str), ("_manager" : Str), ("_adapters" : Str), ("_voted" : Str), ("extension" : Str), ("_failure_traceback" : Str), ("_before_commit" : Str), ("_after_commit" : Str), ("_before_abort" : Str), ("_after_abort" : Str)] from by kernel_rfl, show fputV [("status" : Str), ("_resources" : Str), ("_synchronizers" : Str), ("_manager" : Str), ("_adapters" : Str), ("_voted" : Str), ("extension" : Str), ("_failure_traceback" : Str), ("_before_commit" : Str), ("_after_commit" : Str), ("_before_abort" : Str), ("_after_abort" : Str)] [a0, a1, a2, a3, a4, a5, a6, a7, a8, a9, a10, a11] ("_voted" : Str) u = [a0, a1, a2, a3, a4, u, a6, a7, a8, a9, a10, a11] from by kernel_rfl]; exact h)
theorem n_Transaction_voted (S : StL O) {n : N} {ns : List Str} {vs : List (V N)} {u : V N} {Q : Sto N → Prop} (h1 : σ n = some (.inst C_Transaction ns vs)) (hx : ns.contains ("_voted" : Str) = false) (hl : vs.length = ns.length) (hz : Nat.ble ns.length 900 = true) (h : Q (σ.set n (.inst C_Transaction (ns ++ [("_voted" : Str)]) (vs ++ [u])))) : P2U O c (fun o v => setAttr o ("_voted" : Str) v) (.ref n) u ρ σ Q X := .setNew S.ok h1 hx hl hz (cls_Transaction S) (at_Transaction_voted S) h
theorem at_Transaction_extension (S : StL O) : AttrOk O C_Transaction ("extension" : Str) := attrB_ok (by rw [S.K]; kernel_rfl)
theorem g_Transaction_extension (S : StL O) {n : N} {a0 a1 a2 a3 a4 a5 a6 a7 a8 a9 a10 a11 : V N} {e : Bool} (h1 : σ n = some (.inst C_Transaction [("status" : Str), ("_resources" : Str), ("_synchronizers" : Str), ("_manager" : Str), ("_adapters" : Str), ("_voted" : Str), ("extension" : Str), ("_failure_traceback" : Str), ("_before_commit" : Str), ("_after_commit" : Str), ("_before_abort" : Str), ("_after_abort" : Str)] [a0, a1, a2, a3, a4, a5, a6, a7, a8, a9, a10, a11])) (hh : a6.hands = true) (h : Q a6 σ) : P1 O c (fun o => getAttr o ("extension" : Str) e) (.ref n) ρ σ Q X := .get S.ok (cls_Transaction S) h1 (at_Transaction_extension S) (by kernel_rfl) hh h
theorem s_Transaction_extension (S : StL O) {n : N} {a0 a1 a2 a3 a4 a5 a6 a7 a8 a9 a10 a11 : V N} {u : V N} {Q : Sto N → Prop} (h1 : σ n = some (.inst C_Transaction [("status" : Str), ("_resources" : Str), ("_synchronizers" : Str), ("_manager" : Str), ("_adapters" : Str), ("_voted" : Str), ("extension" : Str), ("_failure_traceback" : Str), ("_before_commit" : Str), ("_after_commit" : Str), ("_before_abort" : Str), ("_after_abort" : Str)] [a0, a1, a2, a3, a4, a5, a6, a7, a8, a9, a10, a11])) (h : Q (σ.set n (.inst C_Transaction [("status" : Str), ("_resources" : Str), ("_synchronizers" : Str), ("_manager" : Str), ("_adapters" : Str), ("_voted" : Str), ("extension" : Str), ("_failure_traceback" : Str), ("_before_commit" : Str), ("_after_commit" : Str), ("_before_abort" : Str), ("_after_abort" : Str)] [a0, a1, a2, a3, a4, a5, u, a7, a8, a9, a10, a11]))) : P2U O c (fun o v => setAttr o ("extension" : Str) v) (.ref n) u ρ σ Q X := .set S.ok (cls_Transaction S) h1 (at_Transaction_extension S) (Nat.le_of_ble_eq_true (by kernel_rfl)) (by rw [show fputN [("status" : Str), ("_resources" : Str), ("_synchronizers" : Str), ("_manager" : Str), ("_adapters" : Str), ("_voted" : Str), ("extension" : Str), ("_failure_traceback" : Str), ("_before_commit" : Str), ("_after_commit" : Str), ("_before_abort" : Str), ("_after_abort" : Str)] ("extension" : Str) = [("status" : Str), ("_resources" : Str), ("_synchronizers" : Str), ("_manager" : Str), ("_adapters" : Str), ("_voted" : Str), ("extension" : Str), ("_failure_traceback" : Str), ("_before_commit" : Str), ("_after_commit" : Str), ("_before_abort" : Str), ("_after_abort" : Str)] from by kernel_rfl, show fputV [("status" : Str), ("_resources" : Str), ("_synchronizers" : Str), ("_manager" : Str), ("_adapters" : Str), ("_voted" : Str), ("extension" : Str), ("_failure_traceback" : Str), ("_before_commit" : Str), ("_after_commit" : Str), ("_before_abort" : Str), ("_after_abort" : Str)] [a0, a1, a2, a3, a4, a5, a6, a7, a8, a9, a10, a11] ("extension" : Str) u = [a0, a1, a2, a3, a4, a5, u, a7, a8, a9, a10, a11] from by kernel_rfl]; exact h)
theorem n_Transaction_extension (S : StL O) {n : N} {ns : List Str} {vs : List (V N)} {u : V N} {Q : Sto N → Prop} (h1 : σ n = some (.inst C_Transaction ns vs)) (hx : ns.contains ("extension" : Str) = false) (hl : vs.length = ns.length) (hz : Nat.ble ns.length 900 = true) (h : Q (σ.set n (.inst C_Transaction (ns ++ [("extension" : Str)]) (vs ++ [u])))) : P2U O c (fun o v => setAttr o ("extension" : Str) v) (.ref n) u ρ σ Q X := .setNew S.ok h1 hx hl hz (cls_Transaction S) (at_Transaction_extension S) h
theorem at_Transaction_failure_traceback (S : StL O) : AttrOk O C_Transaction ("_failure_traceback" : Str) := attrB_ok (by rw [S.K]; kernel_rfl)
theorem g_Transaction_failure_traceback (S : StL O) {n : N} {a0 a1 a2 a3 a4 a5 a6 a7 a8 a9 a10 a11 : V N} {e : Bool} (h1 : σ n = some (.inst C_Transaction [("status" : Str), ("_resources" : Str), ("_synchronizers" : Str), ("_manager" : Str), ("_adapters" : Str), ("_voted" : Str), ("extension" : Str), ("_failure_traceback" : Str), ("_before_commit" : Str), ("_after_commit" : Str), ("_before_abort" : Str), ("_after_abort" : Str)] [a0, a1, a2, a3, a4, a5, a6, a7, a8, a9, a10, a11])) (hh : a7.hands = true) (h : Q a7 σ) : P1 O c (fun o => getAttr o ("_failure_traceback" : Str) e) (.ref n) ρ σ Q X := .get S.ok (cls_Transaction S) h1 (at_Transaction_failure_traceback S) (by kernel_rfl) hh h
theorem s_Transaction_failure_traceback (S : StL O) {n : N} {a0 a1 a2 a3 a4 a5 a6 a7 a8 a9 a10 a11 : V N} {u : V N} {Q : Sto N → Prop} (h1 : σ n = some (.inst C_Transaction [("status" : Str), ("_resources" : Str), ("_synchronizers" : Str), ("_manager" : Str), ("_adapters" : Str), ("_voted" : Str), ("extension" : Str), ("_failure_traceback" : Str), ("_before_commit" : Str), ("_after_commit" : Str), ("_before_abort" : Str), ("_after_abort" : Str)] [a0, a1, a2, a3, a4, a5, a6, a7, a8, a9, a10, a11])) (h : Q (σ.set n (.inst C_Transaction [("status" : Str), ("_resources" : Str), ("_synchronizers" : Str), ("_manager" : Str), ("_adapters" : Str), ("_voted" : Str), ("extension" : Str), ("_failure_traceback" : Str), ("_before_commit" : Str), ("_after_commit" : Str), ("_before_abort" : Str), ("_after_abort" : Str)] [a0, a1, a2, a3, a4, a5, a6, u, a8, a9, a10, a11]))) : P2U O c (fun o v => setAttr o ("_failure_traceback" : Str) v) (.ref n) u ρ σ Q X := .set S.ok (cls_Transaction S) h1 (at_Transaction_failure_traceback S) (Nat.le_of_ble_eq_true (by kernel_rfl)) (by rw [show fputN [("status" : Str), ("_resources" : Str), ("_synchronizers" : Str), ("_manager" : Str), ("_adapters" : Str), ("_voted" : Str), ("extension" : Str), ("_failure_traceback" : Str), ("_before_commit" : Str), ("_after_commit" : Str), ("_before_abort" : Str), ("_after_abort" : Str)] ("_failure_traceback" : Str) = [("status" : Str), ("_resources" : Str), ("_synchronizers" : Str), ("_manager" : Str), ("_adapters" : Str), ("_voted" : Str), ("extension" : Str), ("_failure_traceback" : Str), ("_before_commit" : Str), ("_after_commit" : Str), ("_before_abort" : Str), ("_after_abort" : Str)] from by kernel_rfl, show fputV [("status" : Str), ("_resources" : Str), ("_synchronizers" : Str), ("_manager" : Str), ("_adapters" : Str), ("_voted" : Str), ("extension" : Str), ("_failure_traceback" : Str), ("_before_commit" : Str), ("_after_commit" : Str), ("_before_abort" : Str), ("_after_abort" : Str)] [a0, a1, a2, a3, a4, a5, a6, a7, a8, a9, a10, a11] ("_failure_traceback" : Str) u = [a0, a1, a2, a3, a4, a5, a6, u, a8, a9, a10, a11] from by kernel_rfl]; exact h)
theorem n_Transaction_failure_traceback (S : StL O) {n : N} {ns : List Str} {vs : List (V N)} {u : V N} {Q : Sto N → Prop} (h1 : σ n = some (.inst C_Transaction ns vs)) (hx : ns.contains ("_failure_traceback" : Str) = false) (hl : vs.length = ns.length) (hz : Nat.ble ns.length 900 = true) (h : Q (σ.set n (.inst C_Transaction (ns ++ [("_failure_traceback" : Str)]) (vs ++ [u])))) : P2U O c (fun o v => setAttr o ("_failure_traceback" : Str) v) (.ref n) u ρ σ Q X := .setNew S.ok h1 hx hl hz (cls_Transaction S) (at_Transaction_failure_traceback S) h
theorem at_Transaction_before_commit (S : StL O) : AttrOk O C_Transaction ("_before_commit" : Str) := attrB_ok (by rw [S.K]; kernel_rfl)
theorem g_Transaction_before_commit (S : StL O) {n : N} {a0 a1 a2 a3 a4 a5 a6 a7 a8 a9 a10 a11 : V N} {e : Bool} (h1 : σ n = some (.inst C_Transaction [("status" : Str), ("_resources" : Str), ("_synchronizers" : Str), ("_manager" : Str), ("_adapters" : Str), ("_voted" : Str), ("extension" : Str), ("_failure_traceback" : Str), ("_before_commit" : Str), ("_after_commit" : Str), ("_before_abort" : Str), ("_after_abort" : Str)] [a0, a1, a2, a3, a4, a5, a6, a7, a8, a9, a10, a11])) (hh : a8.hands = true) (h : Q a8 σ) : P1 O c (fun o => getAttr o ("_before_commit" : Str) e) (.ref n) ρ σ Q X := .get S.ok (cls_Transaction S) h1 (at_Transaction_before_commit S) (by kernel_rfl) hh h
theorem s_Transaction_before_commit (S : StL O) {n : N} {a0 a1 a2 a3 a4 a5 a6 a7 a8 a9 a10 a11 : V N} {u : V N} {Q : Sto N → Prop} (h1 : σ n = some (.inst C_Transaction [("status" : Str), ("_resources" : Str), ("_synchronizers" : Str), ("_manager" : Str), ("_adapters" : Str), ("_voted" : Str), ("extension" : Str), ("_failure_traceback" : Str), ("_before_commit" : Str), ("_after_commit" : Str), ("_before_abort" : Str), ("_after_abort" : Str)] [a0, a1, a2, a3, a4, a5, a6, a7, a8, a9, a10, a11])) (h : Q (σ.set n (.inst C_Transaction [("status" : Str), ("_resources" : Str), ("_synchronizers" : Str), ("_manager" : Str), ("_adapters" : Str), ("_voted" : Str), ("extension" : Str), ("_failure_traceback" : Str), ("_before_commit" : Str), ("_after_commit" : Str), ("_before_abort" : Str), ("_after_abort" : Str)] [a0, a1, a2, a3, a4, a5, a6, a7, u, a9, a10, a11]))) : P2U O c (fun o v => setAttr o ("_before_commit" : Str) v) (.ref n) u ρ σ Q X := .set S.ok (cls_Transaction S) h1 (at_Transaction_before_commit S) (Nat.le_of_ble_eq_true (by kernel_rfl)) (by rw [show fputN [("status" : Str), ("_resources" : Str), ("_synchronizers" : Str), ("_manager" : Str), ("_adapters" : Str), ("_voted" : Str), ("extension" : Str), ("_failure_traceback" : Str), ("_before_commit" : Str), ("_after_commit" : Str), ("_before_abort" : Str), ("_after_abort" : Str)] ("_before_commit" : Str) = [("status" : Str), ("_resources" : Str), ("_synchronizers" : Str), ("_manager" : Str), ("_adapters" : Str), ("_voted" : Str), ("extension" : Str), ("_failure_traceback" : Str), ("_before_commit" : Str), ("_after_commit" : Str), ("_before_abort" : Str), ("_after_abort" : Str)] from by kernel_rfl, show fputV [("status" : Str), ("_resources" : Str), ("_synchronizers" : Str), ("_manager" : Str), ("_adapters" : Str), ("_voted" : Str), ("extension" : Str), ("_failure_traceback" : Str), ("_before_commit" : Str), ("_after_commit" : Str), ("_before_abort" : Str), ("_after_abort" : Str)] [a0, a1, a2, a3, a4, a5, a6, a7, a8, a9, a10, a11] ("_before_commit" : Str) u = [a0, a1, a2, a3, a4, a5, a6, a7, u, a9, a10, a11] from by kernel_rfl]; exact h)
theorem n_Transaction_before_commit (S : StL O) {n : N} {ns : List Str} {vs : List (V N)} {u : V N} {Q : Sto N → Prop} (h1 : σ n = some (.inst C_Transaction ns vs)) (hx : ns.contains ("_before_commit" : Str) = false) (hl : vs.length = ns.length) (hz : Nat.ble ns.length 900 = true) (h : Q (σ.set n (.inst C_Transaction (ns ++ [("_before_commit" : Str)]) (vs ++ [u])))) : P2U O c (fun o v => setAttr o ("_before_commit" : Str) v) (.ref n) u ρ σ Q X := .setNew S.ok h1 hx hl hz (cls_Transaction S) (at_Transaction_before_commit S) h
theorem at_Transaction_after_commit (S : StL O) : AttrOk O C_Transaction ("_after_commit" : Str) := attrB_ok (by rw [S.K]; kernel_rfl)
theorem g_Transaction_after_commit (S : StL O) {n : N} {a0 a1 a2 a3 a4 a5 a6 a7 a8 a9 a10 a11 : V N} {e : Bool} (h1 : σ n = some (.inst C_Transaction [("status" : Str), ("_resources" : Str), ("_synchronizers" : Str), ("_manager" : Str), ("_adapters" : Str), ("_voted" : Str), ("extension" : Str), ("_failure_traceback" : Str), ("_before_commit" : Str), ("_after_commit" : Str), ("_before_abort" : Str), ("_after_abort" : Str)] [a0, a1, a2, a3, a4, a5, a6, a7, a8, a9, a10, a11])) (hh : a9.hands = true) (h : Q a9 σ) : P1 O c (fun o => getAttr o ("_after_commit" : Str) e) (.ref n) ρ σ Q X := .get S.ok (cls_Transaction S) h1 (at_Transaction_after_commit S) (by kernel_rfl) hh h
theorem s_Transaction_after_commit (S : StL O) {n : N} {a0 a1 a2 a3 a4 a5 a6 a7 a8 a9 a10 a11 : V N} {u : V N} {Q : Sto N → Prop} (h1 : σ n = some (.inst C_Transaction [("status" : Str), ("_resources" : Str), ("_synchronizers" : Str), ("_manager" : Str), ("_adapters" : Str), ("_voted" : Str), ("extension" : Str), ("_failure_traceback" : Str), ("_before_commit" : Str), ("_after_commit" : Str), ("_before_abort" : Str), ("_after_abort" : Str)] [a0, a1, a2, a3, a4, a5, a6, a7, a8, a9, a10, a11])) (h : Q (σ.set n (.inst C_Transaction [("status" : Str), ("_resources" : Str), ("_synchronizers" : Str), ("_manager" : Str), ("_adapters" : Str), ("_voted" : Str), ("extension" : Str), ("_failure_traceback" : Str), ("_before_commit" : Str), ("_after_commit" : Str), ("_before_abort" : Str), ("_after_abort" : Str)] [a0, a1, a2, a3, a4, a5, a6, a7, a8, u, a10, a11]))) : P2U O c (fun o v => setAttr o ("_after_commit" : Str) v) (.ref n) u ρ σ Q X := .set S.ok (cls_Transaction S) h1 (at_Transaction_after_commit S) (Nat.le_of_ble_eq_true (by kernel_rfl)) (by rw [show fputN [("status" : Str), ("_resources" : Str), ("_synchronizers" : Str), ("_manager" : Str), ("_adapters" : Str), ("_voted" : Str), ("extension" : Str), ("_failure_traceback" : Str), ("_before_commit" : Str), ("_after_commit" : Str), ("_before_abort" : Str), ("_after_abort" : Str)] ("_after_commit" : Str) = [("status" : Str), ("_resources" : Str), ("_synchronizers" : Str), ("_manager" : Str), ("_adapters" : Str), ("_voted" : Str), ("extension" : Str), ("_failure_traceback" : Str), ("_before_commit" : Str), ("_after_commit" : Str), ("_before_abort" : Str), ("_after_abort" : Str)] from by kernel_rfl, show fputV [("status" : Str), ("_resources" : Str), ("_synchronizers" : Str), ("_manager" : Str), ("_adapters" : Str), ("_voted" : Str), ("extension" : Str), ("_failure_traceback" : Str), ("_before_commit" : Str), ("_after_commit" : Str), ("_before_abort" : Str), ("_after_abort" : Str)] [a0, a1, a2, a3, a4, a5, a6, a7, a8, a9, a10, a11] ("_after_commit" : Str) u = [a0, a1, a2, a3, a4, a5, a6, a7, a8, u, a10, a11] from by kernel_rfl]; exact h)
theorem n_Transaction_after_commit (S : StL O) {n : N} {ns : List Str} {vs : List (V N)} {u : V N} {Q : Sto N → Prop} (h1 : σ n = some (.inst C_Transaction ns vs)) (hx : ns.contains ("_after_commit" : Str) = false) (hl : vs.length = ns.length) (hz : Nat.ble ns.length 900 = true) (h : Q (σ.set n (.inst C_Transaction (ns ++ [("_after_commit" : Str)]) (vs ++ [u])))) : P2U O c (fun o v => setAttr o ("_after_commit" : Str) v) (.ref n) u ρ σ Q X := .setNew S.ok h1 hx hl hz (cls_Transaction S) (at_Transaction_after_commit S) h
theorem at_Transaction_before_abort (S : StL O) : AttrOk O C_Transaction ("_before_abort" : Str) := attrB_ok (by rw [S.K]; kernel_rfl)
theorem g_Transaction_before_abort (S : StL O) {n : N} {a0 a1 a2 a3 a4 a5 a6 a7 a8 a9 a10 a11 : V N} {e : Bool} (h1 : σ n = some (.inst C_Transaction [("status" : Str), ("_resources" : Str), ("_synchronizers" : Str), ("_manager" : Str), ("_adapters" : Str), ("_voted" : Str), ("extension" : Str), ("_failure_traceback" : Str), ("_before_commit" : Str), ("_after_commit" : Str), ("_before_abort" : Str), ("_after_abort" : Str)] [a0, a1, a2, a3, a4, a5, a6, a7, a8, a9, a10, a11])) (hh : a10.hands = true) (h : Q a10 σ) : P1 O c (fun o => getAttr o ("_before_abort" : Str) e) (.ref n) ρ σ Q X := .get S.ok (cls_Transaction S) h1 (at_Transaction_before_abort S) (by kernel_rfl) hh h
theorem s_Transaction_before_abort (S : StL O) {n : N} {a0 a1 a2 a3 a4 a5 a6 a7 a8 a9 a10 a11 : V N} {u : V N} {Q : Sto N → Prop} (h1 : σ n = some (.inst C_Transaction [("status" : Str), ("_resources" : Str), ("_synchronizers" : Str), ("_manager" : Str), ("_adapters" : Str), ("_voted" : Str), ("extension" : Str), ("_failure_traceback" : Str), ("_before_commit" : Str), ("_after_commit" : Str), ("_before_abort" : Str), ("_after_abort" : Str)] [a0, a1, a2, a3, a4, a5, a6, a7, a8, a9, a10, a11])) (h : Q (σ.set n (.inst C_Transaction [("status" : Str), ("_resources" : Str), ("_synchronizers" : Str), ("_manager" : Str), ("_adapters" : Str), ("_voted" : Str), ("extension" : Str), ("_failure_traceback" : Str), ("_before_commit" : Str), ("_after_commit" : Str), ("_before_abort" : Str), ("_after_abort" : Str)] [a0, a1, a2, a3, a4, a5, a6, a7, a8, a9, u, a11]))) : P2U O c (fun o v => setAttr o ("_before_abort" : Str) v) (.ref n) u ρ σ Q X := .set S.ok (cls_Transaction S) h1 (at_Transaction_before_abort S) (Nat.le_of_ble_eq_true (by kernel_rfl)) (by rw [show fputN [("status" : Str), ("_resources" : Str), ("_synchronizers" : Str), ("_manager" : Str), ("_adapters" : Str), ("_voted" : Str), ("extension" : Str), ("_failure_traceback" : Str), ("_before_commit" : Str), ("_after_commit" : Str), ("_before_abort" : Str), ("_after_abort" : Str)] ("_before_abort" : Str) = [("status" : Str), ("_resources" : Str), ("_synchronizers" : Str), ("_manager" : Str), ("_adapters" : Str), ("_voted" : Str), ("extension" : Str), ("_failure_traceback" : Str), ("_before_commit" : Str), ("_after_commit" : Str), ("_before_abort" : Str), ("_after_abort" : Str)] from by kernel_rfl, show fputV [("status" : Str), ("_resources" : Str), ("_synchronizers" : Str), ("_manager" : Str), ("_adapters" : Str), ("_voted" : Str), ("extension" : Str), ("_failure_traceback" : Str), ("_before_commit" : Str), ("_after_commit" : Str), ("_before_abort" : Str), ("_after_abort" : Str)] [a0, a1, a2, a3, a4, a5, a6, a7, a8, a9, a10, a11] ("_before_abort" : Str) u = [a0, a1, a2, a3, a4, a5, a6, a7, a8, a9, u, a11] from by kernel_rfl]; exact h)
theorem n_Transaction_before_abort (S : StL O) {n : N} {ns : List Str} {vs : List (V N)} {u : V N} {Q : Sto N → Prop} (h1 : σ n = some (.inst C_Transaction ns vs)) (hx : ns.contains ("_before_abort" : Str) = false) (hl : vs.length = ns.length) (hz : Nat.ble ns.length 900 = true) (h : Q (σ.set n (.inst C_Transaction (ns ++ [("_before_abort" : Str)]) (vs ++ [u])))) : P2U O c (fun o v => setAttr o ("_before_abort" : Str) v) (.ref n) u ρ σ Q X := .setNew S.ok h1 hx hl hz (cls_Transaction S) (at_Transaction_before_abort S) h
theorem at_Transaction_after_abort (S : StL O) : AttrOk O C_Transaction ("_after_abort" : Str) := attrB_ok (by rw [S.K]; kernel_rfl)
theorem g_Transaction_after_abort (S : StL O) {n : N} {a0 a1 a2 a3 a4 a5 a6 a7 a8 a9 a10 a11 : V N} {e : Bool} (h1 : σ n = some (.inst C_Transaction [("status" : Str), ("_resources" : Str), ("_synchronizers" : Str), ("_manager" : Str), ("_adapters" : Str), ("_voted" : Str), ("extension" : Str), ("_failure_traceback" : Str), ("_before_commit" : Str), ("_after_commit" : Str), ("_before_abort" : Str), ("_after_abort" : Str)] [a0, a1, a2, a3, a4, a5, a6, a7, a8, a9, a10, a11])) (hh : a11.hands = true) (h : Q a11 σ) : P1 O c (fun o => getAttr o ("_after_abort" : Str) e) (.ref n) ρ σ Q X := .get S.ok (cls_Transaction S) h1 (at_Transaction_after_abort S) (by kernel_rfl) hh h
theorem s_Transaction_after_abort (S : StL O) {n : N} {a0 a1 a2 a3 a4 a5 a6 a7 a8 a9 a10 a11 : V N} {u : V N} {Q : Sto N → Prop} (h1 : σ n = some (.inst C_Transaction [("status" : Str), ("_resources" : Str), ("_synchronizers" : Str), ("_manager" : Str), ("_adapters" : Str), ("_voted" : Str), ("extension" : Str), ("_failure_traceback" : Str), ("_before_commit" : Str), ("_after_commit" : Str), ("_before_abort" : Str), ("_after_abort" : Str)] [a0, a1, a2, a3, a4, a5, a6, a7, a8, a9, a10, a11])) (h : Q (σ.set n (.inst C_Transaction [("status" : Str), ("_resources" : Str), ("_synchronizers" : Str), ("_manager" : Str), ("_adapters" : Str), ("_voted" : Str), ("extension" : Str), ("_failure_traceback" : Str), ("_before_commit" : Str), ("_after_commit" : Str), ("_before_abort" : Str), ("_after_abort" : Str)] [a0, a1, a2, a3, a4, a5, a6, a7, a8, a9, a10, u]))) : P2U O c (fun o v => setAttr o ("_after_abort" : Str) v) (.ref n) u ρ σ Q X := .set S.ok (cls_Transaction S) h1 (at_Transaction_after_abort S) (Nat.le_of_ble_eq_true (by kernel_rfl)) (by rw [show fputN [("status" : Str), ("_resources" : Str), ("_synchronizers" : Str), ("_manager" : Str), ("_adapters" : Str), ("_voted" : Str), ("extension" : Str), ("_failure_traceback" : Str), ("_before_commit" : Str), ("_after_commit" : Str), ("_before_abort" : Str), ("_after_abort" : Str)] ("_after_abort" : Str) = [("status" : Str), ("_resources" : Str), ("_synchronizers" : Str), ("_manager" : Str), ("_adapters" : Str), ("_voted" : Str), ("extension" : Str), ("_failure_traceback" : Str), ("_before_commit" : Str), ("_after_commit" : Str), ("_before_abort" : Str), ("_after_abort" : Str)] from by kernel_rfl, show fputV [("status" : Str), ("_resources" : Str), ("_synchronizers" : Str), ("_manager" : Str), ("_adapters" : Str), ("_voted" : Str), ("extension" : Str), ("_failure_traceback" : Str), ("_before_commit" : Str), ("_after_commit" : Str), ("_before_abort" : Str), ("_after_abort" : Str)] [a0, a1, a2, a3, a4, a5, a6, a7, a8, a9, a10, a11] ("_after_abort" : Str) u = [a0, a1, a2, a3, a4, a5, a6, a7, a8, a9, a10, u] from by kernel_rfl]; exact h)
theorem n_Transaction_after_abort (S : StL O) {n : N} {ns : List Str} {vs : List (V N)} {u : V N} {Q : Sto N → Prop} (h1 : σ n = some (.inst C_Transaction ns vs)) (hx : ns.contains ("_after_abort" : Str) = false) (hl : vs.length = ns.length) (hz : Nat.ble ns.length 900 = true) (h : Q (σ.set n (.inst C_Transaction (ns ++ [("_after_abort" : Str)]) (vs ++ [u])))) : P2U O c (fun o v => setAttr o ("_after_abort" : Str) v) (.ref n) u ρ σ Q X := .setNew S.ok h1 hx hl hz (cls_Transaction S) (at_Transaction_after_abort S) h
theorem cls_TransactionManager (S : StL O) : ClsOk O C_TransactionManager := clsB_ok (by rw [S.K]; kernel_rfl)
theorem at_TransactionManager_explicit (S : StL O) : AttrOk O C_TransactionManager ("explicit" : Str) := attrB_ok (by rw [S.K]; kernel_rfl)
theorem g_TransactionManager_explicit (S : StL O) {n : N} {a0 a1 a2 : V N} {e : Bool} (h1 : σ n = some (.inst C_TransactionManager [("explicit" : Str), ("_txn" : Str), ("_synchs" : Str)] [a0, a1, a2])) (hh : a0.hands = true) (h : Q a0 σ) : P1 O c (fun o => getAttr o ("explicit" : Str) e) (.ref n) ρ σ Q X := .get S.ok (cls_TransactionManager S) h1 (at_TransactionManager_explicit S) (by kernel_rfl) hh h
theorem s_TransactionManager_explicit (S : StL O) {n : N} {a0 a1 a2 : V N} {u : V N} {Q : Sto N → Prop} (h1 : σ n = some (.inst C_TransactionManager [("explicit" : Str), ("_txn" : Str), ("_synchs" : Str)] [a0, a1, a2])) (h : Q (σ.set n (.inst C_TransactionManager [("explicit" : Str), ("_txn" : Str), ("_synchs" : Str)] [u, a1, a2]))) : P2U O c (fun o v => setAttr o ("explicit" : Str) v) (.ref n) u ρ σ Q X := .set S.ok (cls_TransactionManager S) h1 (at_TransactionManager_explicit S) (Nat.le_of_ble_eq_true (by kernel_rfl)) (by rw [show fputN [("explicit" : Str), ("_txn" : Str), ("_synchs" : Str)] ("explicit" : Str) = [("explicit" : Str), ("_txn" : Str), ("_synchs" : Str)] from by kernel_rfl, show fputV [("explicit" : Str), ("_txn" : Str), ("_synchs" : Str)] [a0, a1, a2] ("explicit" : Str) u = [u, a1, a2] from by kernel_rfl]; exact h)
theorem n_TransactionManager_explicit (S : StL O) {n : N} {ns : List Str} {vs : List (V N)} {u : V N} {Q : Sto N → Prop} (h1 : σ n = some (.inst C_TransactionManager ns vs)) (hx : ns.contains ("explicit" : Str) = false) (hl : vs.length = ns.length) (hz : Nat.ble ns.length 900 = true) (h : Q (σ.set n (.inst C_TransactionManager (ns ++ [("explicit" : Str)]) (vs ++ [u])))) : P2U O c (fun o v => setAttr o ("explicit" : Str) v) (.ref n) u ρ σ Q X := .setNew S.ok h1 hx hl hz (cls_TransactionManager S) (at_TransactionManager_explicit S) h
theorem at_TransactionManager_txn (S : StL O) : AttrOk O C_TransactionManager ("_txn" : Str) := attrB_ok (by rw [S.K]; kernel_rfl)
theorem g_TransactionManager_txn (S : StL O) {n : N} {a0 a1 a2 : V N} {e : Bool} (h1 : σ n = some (.inst C_TransactionManager [("explicit" : Str), ("_txn" : Str), ("_synchs" : Str)] [a0, a1, a2])) (hh : a1.hands = true) (h : Q a1 σ) : P1 O c (fun o => getAttr o ("_txn" : Str) e) (.ref n) ρ σ Q X := .get S.ok (cls_TransactionManager S) h1 (at_TransactionManager_txn S) (by kernel_rfl) hh h
theorem s_TransactionManager_txn (S : StL O) {n : N} {a0 a1 a2 : V N} {u : V N} {Q : Sto N → Prop} (h1 : σ n = some (.inst C_TransactionManager [("explicit" : Str), ("_txn" : Str), ("_synchs" : Str)] [a0, a1, a2])) (h : Q (σ.set n (.inst C_TransactionManager [("explicit" : Str), ("_txn" : Str), ("_synchs" : Str)] [a0, u, a2]))) : P2U O c (fun o v => setAttr o ("_txn" : Str) v) (.ref n) u ρ σ Q X := .set S.ok (cls_TransactionManager S) h1 (at_TransactionManager_txn S) (Nat.le_of_ble_eq_true (by kernel_rfl)) (by rw [show fputN [("explicit" : Str), ("_txn" : Str), ("_synchs" : Str)] ("_txn" : Str) = [("explicit" : Str), ("_txn" : Str), ("_synchs" : Str)] from by kernel_rfl, show fputV [("explicit" : Str), ("_txn" : Str), ("_synchs" : Str)] [a0, a1, a2] ("_txn" : Str) u = [a0, u, a2] from by kernel_rfl]; exact h)
theorem n_TransactionManager_txn (S : StL O) {n : N} {ns : List Str} {vs : List (V N)} {u : V N} {Q : Sto N → Prop} (h1 : σ n = some (.inst C_TransactionManager ns vs)) (hx : ns.contains ("_txn" : Str) = false) (hl : vs.length = ns.length) (hz : Nat.ble ns.length 900 = true) (h : Q (σ.set n (.inst C_TransactionManager (ns ++ [("_txn" : Str)]) (vs ++ [u])))) : P2U O c (fun o v => setAttr o ("_txn" : Str) v) (.ref n) u ρ σ Q X := .setNew S.ok h1 hx hl hz (cls_TransactionManager S) (at_TransactionManager_txn S) h
theorem at_TransactionManager_synchs (S : StL O) : AttrOk O C_TransactionManager ("_synchs" : Str) := attrB_ok (by rw [S.K]; kernel_rfl)
theorem g_TransactionManager_synchs (S : StL O) {n : N} {a0 a1 a2 : V N} {e : Bool} (h1 : σ n = some (.inst C_TransactionManager [("explicit" : Str), ("_txn" : Str), ("_synchs" : Str)] [a0, a1, a2])) (hh : a2.hands = true) (h : Q a2 σ) : P1 O c (fun o => getAttr o ("_synchs" : Str) e) (.ref n) ρ σ Q X := .get S.ok (cls_TransactionManager S) h1 (at_TransactionManager_synchs S) (by kernel_rfl) hh h
theorem s_TransactionManager_synchs (S : StL O) {n : N} {a0 a1 a2 : V N} {u : V N} {Q : Sto N → Prop} (h1 : σ n = some (.inst C_TransactionManager [("explicit" : Str), ("_txn" : Str), ("_synchs" : Str)] [a0, a1, a2])) (h : Q (σ.set n (.inst C_TransactionManager [("explicit" : Str), ("_txn" : Str), ("_synchs" : Str)] [a0, a1, u]))) : P2U O c (fun o v => setAttr o ("_synchs" : Str) v) (.ref n) u ρ σ Q X := .set S.ok (cls_TransactionManager S) h1 (at_TransactionManager_synchs S) (Nat.le_of_ble_eq_true (by kernel_rfl)) (by rw [show fputN [("explicit" : Str), ("_txn" : Str), ("_synchs" : Str)] ("_synchs" : Str) = [("explicit" : Str), ("_txn" : Str), ("_synchs" : Str)] from by kernel_rfl, show fputV [("explicit" : Str), ("_txn" : Str), ("_synchs" : Str)] [a0, a1, a2] ("_synchs" : Str) u = [a0, a1, u] from by kernel_rfl]; exact h)
theorem n_TransactionManager_synchs (S : StL O) {n : N} {ns : List Str} {vs : List (V N)} {u : V N} {Q : Sto N → Prop} (h1 : σ n = some (.inst C_TransactionManager ns vs)) (hx : ns.contains ("_synchs" : Str) = false) (hl : vs.length = ns.length) (hz : Nat.ble ns.length 900 = true) (h : Q (σ.set n (.inst C_TransactionManager (ns ++ [("_synchs" : Str)]) (vs ++ [u])))) : P2U O c (fun o v => setAttr o ("_synchs" : Str) v) (.ref n) u ρ σ Q X := .setNew S.ok h1 hx hl hz (cls_TransactionManager S) (at_TransactionManager_synchs S) h
theorem cls_WeakSet (S : StL O) : ClsOk O C_WeakSet := clsB_ok (by rw [S.K]; kernel_rfl)
theorem at_WeakSet_data (S : StL O) : AttrOk O C_WeakSet ("data" : Str) := attrB_ok (by rw [S.K]; kernel_rfl)
theorem g_WeakSet_data (S : StL O) {n : N} {a0 : V N} {e : Bool} (h1 : σ n = some (.inst C_WeakSet [("data" : Str)] [a0])) (hh : a0.hands = true) (h : Q a0 σ) : P1 O c (fun o => getAttr o ("data" : Str) e) (.ref n) ρ σ Q X := .get S.ok (cls_WeakSet S) h1 (at_WeakSet_data S) (by kernel_rfl) hh h
theorem s_WeakSet_data (S : StL O) {n : N} {a0 : V N} {u : V N} {Q : Sto N → Prop} (h1 : σ n = some (.inst C_WeakSet [("data" : Str)] [a0])) (h : Q (σ.set n (.inst C_WeakSet [("data" : Str)] [u]))) : P2U O c (fun o v => setAttr o ("data" : Str) v) (.ref n) u ρ σ Q X := .set S.ok (cls_WeakSet S) h1 (at_WeakSet_data S) (Nat.le_of_ble_eq_true (by kernel_rfl)) (by rw [show fputN [("data" : Str)] ("data" : Str) = [("data" : Str)] from by kernel_rfl, show fputV [("data" : Str)] [a0] ("data" : Str) u = [u] from by kernel_rfl]; exact h)
theorem n_WeakSet_data (S : StL O) {n : N} {ns : List Str} {vs : List (V N)} {u : V N} {Q : Sto N → Prop} (h1 : σ n = some (.inst C_WeakSet ns vs)) (hx : ns.contains ("data" : Str) = false) (hl : vs.length = ns.length) (hz : Nat.ble ns.length 900 = true) (h : Q (σ.set n (.inst C_WeakSet (ns ++ [("data" : Str)]) (vs ++ [u])))) : P2U O c (fun o v => setAttr o ("data" : Str) v) (.ref n) u ρ σ Q X := .setNew S.ok h1 hx hl hz (cls_WeakSet S) (at_WeakSet_data S) h
theorem cls_Manager (S : StL O) : ClsOk O C_Manager := clsB_ok (by rw [S.K]; kernel_rfl)
theorem at_Manager_who (S : StL O) : AttrOk O C_Manager ("who" : Str) := attrB_ok (by rw [S.K]; kernel_rfl)
theorem g_Manager_who (S : StL O) {n : N} {a0 a1 a2 a3 a4 a5 a6 a7 : V N} {e : Bool} (h1 : σ n = some (.inst C_Manager [("who" : Str), ("key" : Str), ("plan" : Str), ("log" : Str), ("deed" : Str), ("kept" : Str), ("value" : Str), ("ready" : Str)] [a0, a1, a2, a3, a4, a5, a6, a7])) (hh : a0.hands = true) (h : Q a0 σ) : P1 O c (fun o => getAttr o ("who" : Str) e) (.ref n) ρ σ Q X := .get S.ok (cls_Manager S) h1 (at_Manager_who S) (by kernel_rfl) hh h
theorem s_Manager_who (S : StL O) {n : N} {a0 a1 a2 a3 a4 a5 a6 a7 : V N} {u : V N} {Q : Sto N → Prop} (h1 : σ n = some (.inst C_Manager [("who" : Str), ("key" : Str), ("plan" : Str), ("log" : Str), ("deed" : Str), ("kept" : Str), ("value" : Str), ("ready" : Str)] [a0, a1, a2, a3, a4, a5, a6, a7])) (h : Q (σ.set n (.inst C_Manager [("who" : Str), ("key" : Str), ("plan" : Str), ("log" : Str), ("deed" : Str), ("kept" : Str), ("value" : Str), ("ready" : Str)] [u, a1, a2, a3, a4, a5, a6, a7]))) : P2U O c (fun o v => setAttr o ("who" : Str) v) (.ref n) u ρ σ Q X := .set S.ok (cls_Manager S) h1 (at_Manager_who S) (Nat.le_of_ble_eq_true (by kernel_rfl)) (by rw [show fputN [("who" : Str), ("key" : Str), ("plan" : Str), ("log" : Str), ("deed" : Str), ("kept" : Str), ("value" : Str), ("ready" : Str)] ("who" : Str) = [("who" : Str), ("key" : Str), ("plan" : Str), ("log" : Str), ("deed" : Str), ("kept" : Str), ("value" : Str), ("ready" : Str)] from by kernel_rfl, show fputV [("who" : Str), ("key" : Str), ("plan" : Str), ("log" : Str), ("deed" : Str), ("kept" : Str), ("value" : Str), ("ready" : Str)] [a0, a1, a2, a3, a4, a5, a6, a7] ("who" : Str) u = [u, a1, a2, a3, a4, a5, a6, a7] from by kernel_rfl]; exact h)
theorem n_Manager_who (S : StL O) {n : N} {ns : List Str} {vs : List (V N)} {u : V N} {Q : Sto N → Prop} (h1 : σ n = some (.inst C_Manager ns vs)) (hx : ns.contains ("who" : Str) = false) (hl : vs.length = ns.length) (hz : Nat.ble ns.length 900 = true) (h : Q (σ.set n (.inst C_Manager (ns ++ [("who" : Str)]) (vs ++ [u])))) : P2U O c (fun o v => setAttr o ("who" : Str) v) (.ref n) u ρ σ Q X := .setNew S.ok h1 hx hl hz (cls_Manager S) (at_Manager_who S) h
theorem at_Manager_key (S : StL O) : AttrOk O C_Manager ("key" : Str) := attrB_ok (by rw [S.K]; kernel_rfl)
theorem g_Manager_key (S : StL O) {n : N} {a0 a1 a2 a3 a4 a5 a6 a7 : V N} {e : Bool} (h1 : σ n = some (.inst C_Manager [("who" : Str), ("key" : Str), ("plan" : Str), ("log" : Str), ("deed" : Str), ("kept" : Str), ("value" : Str), ("ready" : Str)] [a0, a1, a2, a3, a4, a5, a6, a7])) (hh : a1.hands = true) (h : Q a1 σ) : P1 O c (fun o => getAttr o ("key" : Str) e) (.ref n) ρ σ Q X := .get S.ok (cls_Manager S) h1 (at_Manager_key S) (by kernel_rfl) hh h
theorem s_Manager_key (S : StL O) {n : N} {a0 a1 a2 a3 a4 a5 a6 a7 : V N} {u : V N} {Q : Sto N → Prop} (h1 : σ n = some (.inst C_Manager [("who" : Str), ("key" : Str), ("plan" : Str), ("log" : Str), ("deed" : Str), ("kept" : Str), ("value" : Str), ("ready" : Str)] [a0, a1, a2, a3, a4, a5, a6, a7])) (h : Q (σ.set n (.inst C_Manager [("who" : Str), ("key" : Str), ("plan" : Str), ("log" : Str), ("deed" : Str), ("kept" : Str), ("value" : Str), ("ready" : Str)] [a0, u, a2, a3, a4, a5, a6, a7]))) : P2U O c (fun o v => setAttr o ("key" : Str) v) (.ref n) u ρ σ Q X := .set S.ok (cls_Manager S) h1 (at_Manager_key S) (Nat.le_of_ble_eq_true (by kernel_rfl)) (by rw [show fputN [("who" : Str), ("key" : Str), ("plan" : Str), ("log" : Str), ("deed" : Str), ("kept" : Str), ("value" : Str), ("ready" : Str)] ("key" : Str) = [("who" : Str), ("key" : Str), ("plan" : Str), ("log" : Str), ("deed" : Str), ("kept" : Str), ("value" : Str), ("ready" : Str)] from by kernel_rfl, show fputV [("who" : Str), ("key" : Str), ("plan" : Str), ("log" : Str), ("deed" : Str), ("kept" : Str), ("value" : Str), ("ready" : Str)] [a0, a1, a2, a3, a4, a5, a6, a7] ("key" : Str) u = [a0, u, a2, a3, a4, a5, a6, a7] from by kernel_rfl]; exact h)
theorem n_Manager_key (S : StL O) {n : N} {ns : List Str} {vs : List (V N)} {u : V N} {Q : Sto N → Prop} (h1 : σ n = some (.inst C_Manager ns vs)) (hx : ns.contains ("key" : Str) = false) (hl : vs.length = ns.length) (hz : Nat.ble ns.length 900 = true) (h : Q (σ.set n (.inst C_Manager (ns ++ [("key" : Str)]) (vs ++ [u])))) : P2U O c (fun o v => setAttr o ("key" : Str) v) (.ref n) u ρ σ Q X := .setNew S.ok h1 hx hl hz (cls_Manager S) (at_Manager_key S) h
theorem at_Manager_plan (S : StL O) : AttrOk O C_Manager ("plan" : Str) := attrB_ok (by rw [S.K]; kernel_rfl)
theorem g_Manager_plan (S : StL O) {n : N} {a0 a1 a2 a3 a4 a5 a6 a7 : V N} {e : Bool} (h1 : σ n = some (.inst C_Manager [("who" : Str), ("key" : Str), ("plan" : Str), ("log" : Str), ("deed" : Str), ("kept" : Str), ("value" : Str), ("ready" : Str)] [a0, a1, a2, a3, a4, a5, a6, a7])) (hh : a2.hands = true) (h : Q a2 σ) : P1 O c (fun o => getAttr o ("plan" : Str) e) (.ref n) ρ σ Q X := .get S.ok (cls_Manager S) h1 (at_Manager_plan S) (by kernel_rfl) hh h
theorem s_Manager_plan (S : StL O) {n : N} {a0 a1 a2 a3 a4 a5 a6 a7 : V N} {u : V N} {Q : Sto N → Prop} (h1 : σ n = some (.inst C_Manager [("who" : Str), ("key" : Str), ("plan" : Str), ("log" : Str), ("deed" : Str), ("kept" : Str), ("value" : Str), ("ready" : Str)] [a0, a1, a2, a3, a4, a5, a6, a7])) (h : Q (σ.set n (.inst C_Manager [("who" : Str), ("key" : Str), ("plan" : Str), ("log" : Str), ("deed" : Str), ("kept" : Str), ("value" : Str), ("ready" : Str)] [a0, a1, u, a3, a4, a5, a6, a7]))) : P2U O c (fun o v => setAttr o ("plan" : Str) v) (.ref n) u ρ σ Q X := .set S.ok (cls_Manager S) h1 (at_Manager_plan S) (Nat.le_of_ble_eq_true (by kernel_rfl)) (by rw [show fputN [("who" : Str), ("key" : Str), ("plan" : Str), ("log" : Str), ("deed" : Str), ("kept" : Str), ("value" : Str), ("ready" : Str)] ("plan" : Str) = [("who" : Str), ("key" : Str), ("plan" : Str), ("log" : Str), ("deed" : Str), ("kept" : Str), ("value" : Str), ("ready" : Str)] from by kernel_rfl, show fputV [("who" : Str), ("key" : Str), ("plan" : Str), ("log" : Str), ("deed" : Str), ("kept" : Str), ("value" : Str), ("ready" : Str)] [a0, a1, a2, a3, a4, a5, a6, a7] ("plan" : Str) u = [a0, a1, u, a3, a4, a5, a6, a7] from by kernel_rfl]; exact h)
theorem n_Manager_plan (S : StL O) {n : N} {ns : List Str} {vs : List (V N)} {u : V N} {Q : Sto N → Prop} (h1 : σ n = some (.inst C_Manager ns vs)) (hx : ns.contains ("plan" : Str) = false) (hl : vs.length = ns.length) (hz : Nat.ble ns.length 900 = true) (h : Q (σ.set n (.inst C_Manager (ns ++ [("plan" : Str)]) (vs ++ [u])))) : P2U O c (fun o v => setAttr o ("plan" : Str) v) (.ref n) u ρ σ Q X := .setNew S.ok h1 hx hl hz (cls_Manager S) (at_Manager_plan S) h
theorem at_Manager_log (S : StL O) : AttrOk O C_Manager ("log" : Str) := attrB_ok (by rw [S.K]; kernel_rfl)
theorem g_Manager_log (S : StL O) {n : N} {a0 a1 a2 a3 a4 a5 a6 a7 : V N} {e : Bool} (h1 : σ n = some (.inst C_Manager [("who" : Str), ("key" : Str), ("plan" : Str), ("log" : Str), ("deed" : Str), ("kept" : Str), ("value" : Str), ("ready" : Str)] [a0, a1, a2, a3, a4, a5, a6, a7])) (hh : a3.hands = true) (h : Q a3 σ) : P1 O c (fun o => getAttr o ("log" : Str) e) (.ref n) ρ σ Q X := .get S.ok (cls_Manager S) h1 (at_Manager_log S) (by kernel_rfl) hh h
theorem s_Manager_log (S : StL O) {n : N} {a0 a1 a2 a3 a4 a5 a6 a7 : V N} {u : V N} {Q : Sto N → Prop} (h1 : σ n = some (.inst C_Manager [("who" : Str), ("key" : Str), ("plan" : Str), ("log" : Str), ("deed" : Str), ("kept" : Str), ("value" : Str), ("ready" : Str)] [a0, a1, a2, a3, a4, a5, a6, a7])) (h : Q (σ.set n (.inst C_Manager [("who" : Str), ("key" : Str), ("plan" : Str), ("log" : Str), ("deed" : Str), ("kept" : Str), ("value" : Str), ("ready" : Str)] [a0, a1, a2, u, a4, a5, a6, a7]))) : P2U O c (fun o v => setAttr o ("log" : Str) v) (.ref n) u ρ σ Q X := .set S.ok (cls_Manager S) h1 (at_Manager_log S) (Nat.le_of_ble_eq_true (by kernel_rfl)) (by rw [show fputN [("who" : Str), ("key" : Str), ("plan" : Str), ("log" : Str), ("deed" : Str), ("kept" : Str), ("value" : Str), ("ready" : Str)] ("log" : Str) = [("who" : Str), ("key" : Str), ("plan" : Str), ("log" : Str), ("deed" : Str), ("kept" : Str), ("value" : Str), ("ready" : Str)] from by kernel_rfl, show fputV [("who" : Str), ("key" : Str), ("plan" : Str), ("log" : Str), ("deed" : Str), ("kept" : Str), ("value" : Str), ("ready" : Str)] [a0, a1, a2, a3, a4, a5, a6, a7] ("log" : Str) u = [a0, a1, a2, u, a4, a5, a6, a7] from by kernel_rfl]; exact h)
theorem n_Manager_log (S : StL O) {n : N} {ns : List Str} {vs : List (V N)} {u : V N} {Q : Sto N → Prop} (h1 : σ n = some (.inst C_Manager ns vs)) (hx : ns.contains ("log" : Str) = false) (hl : vs.length = ns.length) (hz : Nat.ble ns.length 900 = true) (h : Q (σ.set n (.inst C_Manager (ns ++ [("log" : Str)]) (vs ++ [u])))) : P2U O c (fun o v => setAttr o ("log" : Str) v) (.ref n) u ρ σ Q X := .setNew S.ok h1 hx hl hz (cls_Manager S) (at_Manager_log S) h
theorem at_Manager_deed (S : StL O) : AttrOk O C_Manager ("deed" : Str) := attrB_ok (by rw [S.K]; kernel_rfl)
theorem g_Manager_deed (S : StL O) {n : N} {a0 a1 a2 a3 a4 a5 a6 a7 : V N} {e : Bool} (h1 : σ n = some (.inst C_Manager [("who" : Str), ("key" : Str), ("plan" : Str), ("log" : Str), ("deed" : Str), ("kept" : Str), ("value" : Str), ("ready" : Str)] [a0, a1, a2, a3, a4, a5, a6, a7])) (hh : a4.hands = true) (h : Q a4 σ) : P1 O c (fun o => getAttr o ("deed" : Str) e) (.ref n) ρ σ Q X := .get S.ok (cls_Manager S) h1 (at_Manager_deed S) (by kernel_rfl) hh h
theorem s_Manager_deed (S : StL O) {n : N} {a0 a1 a2 a3 a4 a5 a6 a7 : V N} {u : V N} {Q : Sto N → Prop} (h1 : σ n = some (.inst C_Manager [("who" : Str), ("key" : Str), ("plan" : Str), ("log" : Str), ("deed" : Str), ("kept" : Str), ("value" : Str), ("ready" : Str)] [a0, a1, a2, a3, a4, a5, a6, a7])) (h : Q (σ.set n (.inst C_Manager [("who" : Str), ("key" : Str), ("plan" : Str), ("log" : Str), ("deed" : Str), ("kept" : Str), ("value" : Str), ("ready" : Str)] [a0, a1, a2, a3, u, a5, a6, a7]))) : P2U O c (fun o v => setAttr o ("deed" : Str) v) (.ref n) u ρ σ Q X := .set S.ok (cls_Manager S) h1 (at_Manager_deed S) (Nat.le_of_ble_eq_true (by kernel_rfl)) (by rw [show fputN [("who" : Str), ("key" : Str), ("plan" : Str), ("log" : Str), ("deed" : Str), ("kept" : Str), ("value" : Str), ("ready" : Str)] ("deed" : Str) = [("who" : Str), ("key" : Str), ("plan" : Str), ("log" : Str), ("deed" : Str), ("kept" : Str), ("value" : Str), ("ready" : Str)] from by kernel_rfl, show fputV [("who" : Str), ("key" : Str), ("plan" : Str), ("log" : Str), ("deed" : Str), ("kept" : Str), ("value" : Str), ("ready" : Str)] [a0, a1, a2, a3, a4, a5, a6, a7] ("deed" : Str) u = [a0, a1, a2, a3, u, a5, a6, a7] from by kernel_rfl]; exact h)
theorem n_Manager_deed (S : StL O) {n : N} {ns : List Str} {vs : List (V N)} {u : V N} {Q : Sto N → Prop} (h1 : σ n = some (.inst C_Manager ns vs)) (hx : ns.contains ("deed" : Str) = false) (hl : vs.length = ns.length) (hz : Nat.ble ns.length 900 = true) (h : Q (σ.set n (.inst C_Manager (ns ++ [("deed" : Str)]) (vs ++ [u])))) : P2U O c (fun o v => setAttr o ("deed" : Str) v) (.ref n) u ρ σ Q X := .setNew S.ok h1 hx hl hz (cls_Manager S) (at_Manager_deed S) h
theorem at_Manager_kept (S : StL O) : AttrOk O C_Manager ("kept" : Str) := attrB_ok (by rw [S.K]; kernel_rfl)
theorem g_Manager_kept (S : StL O) {n : N} {a0 a1 a2 a3 a4 a5 a6 a7 : V N} {e : Bool} (h1 : σ n = some (.inst C_Manager [("who" : Str), ("key" : Str), ("plan" : Str), ("log" : Str), ("deed" : Str), ("kept" : Str), ("value" : Str), ("ready" : Str)] [a0, a1, a2, a3, a4, a5, a6, a7])) (hh : a5.hands = true) (h : Q a5 σ) : P1 O c (fun o => getAttr o ("kept" : Str) e) (.ref n) ρ σ Q X := .get S.ok (cls_Manager S) h1 (at_Manager_kept S) (by kernel_rfl) hh h
theorem s_Manager_kept (S : StL O) {n : N} {a0 a1 a2 a3 a4 a5 a6 a7 : V N} {u : V N} {Q : Sto N → Prop} (h1 : σ n = some (.inst C_Manager [("who" : Str), ("key" : Str), ("plan" : Str), ("log" : Str), ("deed" : Str), ("kept" : Str), ("value" : Str), ("ready" : Str)] [a0, a1, a2, a3, a4, a5, a6, a7])) (h : Q (σ.set n (.inst C_Manager [("who" : Str), ("key" : Str), ("plan" : Str), ("log" : Str), ("deed" : Str), ("kept" : Str), ("value" : Str), ("ready" : Str)] [a0, a1, a2, a3, a4, u, a6, a7]))) : P2U O c (fun o v => setAttr o ("kept" : Str) v) (.ref n) u ρ σ Q X := .set S.ok (cls_Manager S) h1 (at_Manager_kept S) (Nat.le_of_ble_eq_true (by kernel_rfl)) (by rw [show fputN [("who" : Str), ("key" : Str), ("plan" : Str), ("log" : Str), ("deed" : Str), ("kept" : Str), ("value" : Str), ("ready" : Str)] ("kept" : Str) = [("who" : Str), ("key" : Str), ("plan" : Str), ("log" : Str), ("deed" : Str), ("kept" : Str), ("value" : Str), ("ready" : Str)] from by kernel_rfl, show fputV [("who" : Str), ("key" : Str), ("plan" : Str), ("log" : Str), ("deed" : Str), ("kept" : Str), ("value" : Str), ("ready" : Str)] [a0, a1, a2, a3, a4, a5, a6, a7] ("kept" : Str) u = [a0, a1, a2, a3, a4, u, a6, a7] from by kernel_rfl]; exact h)
theorem n_Manager_kept (S : StL O) {n : N} {ns : List Str} {vs : List (V N)} {u : V N} {Q : Sto N → Prop} (h1 : σ n = some (.inst C_Manager ns vs)) (hx : ns.contains ("kept" : Str) = false) (hl : vs.length = ns.length) (hz : Nat.ble ns.length 900 = true) (h : Q (σ.set n (.inst C_Manager (ns ++ [("kept" : Str)]) (vs ++ [u])))) : P2U O c (fun o v => setAttr o ("kept" : Str) v) (.ref n) u ρ σ Q X := .setNew S.ok h1 hx hl hz (cls_Manager S) (at_Manager_kept S) h
theorem at_Manager_value (S : StL O) : AttrOk O C_Manager ("value" : Str) := attrB_ok (by rw [S.K]; kernel_rfl)
theorem g_Manager_value (S : StL O) {n : N} {a0 a1 a2 a3 a4 a5 a6 a7 : V N} {e : Bool} (h1 : σ n = some (.inst C_Manager [("who" : Str), ("key" : Str), ("plan" : Str), ("log" : Str), ("deed" : Str), ("kept" : Str), ("value" : Str), ("ready" : Str)] [a0, a1, a2, a3, a4, a5, a6, a7])) (hh : a6.hands = true) (h : Q a6 σ) : P1 O c (fun o => getAttr o ("value" : Str) e) (.ref n) ρ σ Q X := .get S.ok (cls_Manager S) h1 (at_Manager_value S) (by kernel_rfl) hh h
theorem s_Manager_value (S : StL O) {n : N} {a0 a1 a2 a3 a4 a5 a6 a7 : V N} {u : V N} {Q : Sto N → Prop} (h1 : σ n = some (.inst C_Manager [("who" : Str), ("key" : Str), ("plan" : Str), ("log" : Str), ("deed" : Str), ("kept" : Str), ("value" : Str), ("ready" : Str)] [a0, a1, a2, a3, a4, a5, a6, a7])) (h : Q (σ.set n (.inst C_Manager [("who" : Str), ("key" : Str), ("plan" : Str), ("log" : Str), ("deed" : Str), ("kept" : Str), ("value" : Str), ("ready" : Str)] [a0, a1, a2, a3, a4, a5, u, a7]))) : P2U O c (fun o v => setAttr o ("value" : Str) v) (.ref n) u ρ σ Q X := .set S.ok (cls_Manager S) h1 (at_Manager_value S) (Nat.le_of_ble_eq_true (by kernel_rfl)) (by rw [show fputN [("who" : Str), ("key" : Str), ("plan" : Str), ("log" : Str), ("deed" : Str), ("kept" : Str), ("value" : Str), ("ready" : Str)] ("value" : Str) = [("who" : Str), ("key" : Str), ("plan" : Str), ("log" : Str), ("deed" : Str), ("kept" : Str), ("value" : Str), ("ready" : Str)] from by kernel_rfl, show fputV [("who" : Str), ("key" : Str), ("plan" : Str), ("log" : Str), ("deed" : Str), ("kept" : Str), ("value" : Str), ("ready" : Str)] [a0, a1, a2, a3, a4, a5, a6, a7] ("value" : Str) u = [a0, a1, a2, a3, a4, a5, u, a7] from by kernel_rfl]; exact h)
theorem n_Manager_value (S : StL O) {n : N} {ns : List Str} {vs : List (V N)} {u : V N} {Q : Sto N → Prop} (h1 : σ n = some (.inst C_Manager ns vs)) (hx : ns.contains ("value" : Str) = false) (hl : vs.length = ns.length) (hz : Nat.ble ns.length 900 = true) (h : Q (σ.set n (.inst C_Manager (ns ++ [("value" : Str)]) (vs ++ [u])))) : P2U O c (fun o v => setAttr o ("value" : Str) v) (.ref n) u ρ σ Q X := .setNew S.ok h1 hx hl hz (cls_Manager S) (at_Manager_value S) h
theorem at_Manager_ready (S : StL O) : AttrOk O C_Manager ("ready" : Str) := attrB_ok (by rw [S.K]; kernel_rfl)
theorem g_Manager_ready (S : StL O) {n : N} {a0 a1 a2 a3 a4 a5 a6 a7 : V N} {e : Bool} (h1 : σ n = some (.inst C_Manager [("who" : Str), ("key" : Str), ("plan" : Str), ("log" : Str), ("deed" : Str), ("kept" : Str), ("value" : Str), ("ready" : Str)] [a0, a1, a2, a3, a4, a5, a6, a7])) (hh : a7.hands = true) (h : Q a7 σ) : P1 O c (fun o => getAttr o ("ready" : Str) e) (.ref n) ρ σ Q X := .get S.ok (cls_Manager S) h1 (at_Manager_ready S) (by kernel_rfl) hh h
theorem s_Manager_ready (S : StL O) {n : N} {a0 a1 a2 a3 a4 a5 a6 a7 : V N} {u : V N} {Q : Sto N → Prop} (h1 : σ n = some (.inst C_Manager [("who" : Str), ("key" : Str), ("plan" : Str), ("log" : Str), ("deed" : Str), ("kept" : Str), ("value" : Str), ("ready" : Str)] [a0, a1, a2, a3, a4, a5, a6, a7])) (h : Q (σ.set n (.inst C_Manager [("who" : Str), ("key" : Str), ("plan" : Str), ("log" : Str), ("deed" : Str), ("kept" : Str), ("value" : Str), ("ready" : Str)] [a0, a1, a2, a3, a4, a5, a6, u]))) : P2U O c (fun o v => setAttr o ("ready" : Str) v) (.ref n) u ρ σ Q X := .set S.ok (cls_Manager S) h1 (at_Manager_ready S) (Nat.le_of_ble_eq_true (by kernel_rfl)) (by rw [show fputN [("who" : Str), ("key" : Str), ("plan" : Str), ("log" : Str), ("deed" : Str), ("kept" : Str), ("value" : Str), ("ready" : Str)] ("ready" : Str) = [("who" : Str), ("key" : Str), ("plan" : Str), ("log" : Str), ("deed" : Str), ("kept" : Str), ("value" : Str), ("ready" : Str)] from by kernel_rfl, show fputV [("who" : Str), ("key" : Str), ("plan" : Str), ("log" : Str), ("deed" : Str), ("kept" : Str), ("value" : Str), ("ready" : Str)] [a0, a1, a2, a3, a4, a5, a6, a7] ("ready" : Str) u = [a0, a1, a2, a3, a4, a5, a6, u] from by kernel_rfl]; exact h)
theorem n_Manager_ready (S : StL O) {n : N} {ns : List Str} {vs : List (V N)} {u : V N} {Q : Sto N → Prop} (h1 : σ n = some (.inst C_Manager ns vs)) (hx : ns.contains ("ready" : Str) = false) (hl : vs.length = ns.length) (hz : Nat.ble ns.length 900 = true) (h : Q (σ.set n (.inst C_Manager (ns ++ [("ready" : Str)]) (vs ++ [u])))) : P2U O c (fun o v => setAttr o ("ready" : Str) v) (.ref n) u ρ σ Q X := .setNew S.ok h1 hx hl hz (cls_Manager S) (at_Manager_ready S) h
theorem pm_Transaction_join (S : StL O) {n : N} {a0 a1 a2 a3 a4 a5 a6 a7 a8 a9 a10 a11 : V N} {Q : V N → List (V N) → Sto N → Prop} (h1 : σ n = some (.inst C_Transaction [("status" : Str), ("_resources" : Str), ("_synchronizers" : Str), ("_manager" : Str), ("_adapters" : Str), ("_voted" : Str), ("extension" : Str), ("_failure_traceback" : Str), ("_before_commit" : Str), ("_after_commit" : Str), ("_before_abort" : Str), ("_after_abort" : Str)] [a0, a1, a2, a3, a4, a5, a6, a7, a8, a9, a10, a11])) (h : Q (.st (.ref f_Transaction_join.addr)) [.ref n] σ) : PM O c ("join" : Str) (.ref n) ρ σ Q X := .instR (f := f_Transaction_join.addr) S.ok h1 (by kernel_rfl) (cls_Transaction S) (by rw [S.K]; kernel_rfl) h
theorem pm_Transaction_commit (S : StL O) {n : N} {a0 a1 a2 a3 a4 a5 a6 a7 a8 a9 a10 a11 : V N} {Q : V N → List (V N) → Sto N → Prop} (h1 : σ n = some (.inst C_Transaction [("status" : Str), ("_resources" : Str), ("_synchronizers" : Str), ("_manager" : Str), ("_adapters" : Str), ("_voted" : Str), ("extension" : Str), ("_failure_traceback" : Str), ("_before_commit" : Str), ("_after_commit" : Str), ("_before_abort" : Str), ("_after_abort" : Str)] [a0, a1, a2, a3, a4, a5, a6, a7, a8, a9, a10, a11])) (h : Q (.st (.ref f_Transaction_commit.addr)) [.ref n] σ) : PM O c ("commit" : Str) (.ref n) ρ σ Q X := .instR (f := f_Transaction_commit.addr) S.ok h1 (by kernel_rfl) (cls_Transaction S) (by rw [S.K]; kernel_rfl) h
theorem pm_Transaction_abort (S : StL O) {n : N} {a0 a1 a2 a3 a4 a5 a6 a7 a8 a9 a10 a11 : V N} {Q : V N → List (V N) → Sto N → Prop} (h1 : σ n = some (.inst C_Transaction [("status" : Str), ("_resources" : Str), ("_synchronizers" : Str), ("_manager" : Str), ("_adapters" : Str), ("_voted" : Str), ("extension" : Str), ("_failure_traceback" : Str), ("_before_commit" : Str), ("_after_commit" : Str), ("_before_abort" : Str), ("_after_abort" : Str)] [a0, a1, a2, a3, a4, a5, a6, a7, a8, a9, a10, a11])) (h : Q (.st (.ref f_Transaction_abort.addr)) [.ref n] σ) : PM O c ("abort" : Str) (.ref n) ρ σ Q X := .instR (f := f_Transaction_abort.addr) S.ok h1 (by kernel_rfl) (cls_Transaction S) (by rw [S.K]; kernel_rfl) h
theorem pm_Transaction_doom (S : StL O) {n : N} {a0 a1 a2 a3 a4 a5 a6 a7 a8 a9 a10 a11 : V N} {Q : V N → List (V N) → Sto N → Prop} (h1 : σ n = some (.inst C_Transaction [("status" : Str), ("_resources" : Str), ("_synchronizers" : Str), ("_manager" : Str), ("_adapters" : Str), ("_voted" : Str), ("extension" : Str), ("_failure_traceback" : Str), ("_before_commit" : Str), ("_after_commit" : Str), ("_before_abort" : Str), ("_after_abort" : Str)] [a0, a1, a2, a3, a4, a5, a6, a7, a8, a9, a10, a11])) (h : Q (.st (.ref f_Transaction_doom.addr)) [.ref n] σ) : PM O c ("doom" : Str) (.ref n) ρ σ Q X := .instR (f := f_Transaction_doom.addr) S.ok h1 (by kernel_rfl) (cls_Transaction S) (by rw [S.K]; kernel_rfl) h
theorem pm_Transaction_addBeforeCommitHook (S : StL O) {n : N} {a0 a1 a2 a3 a4 a5 a6 a7 a8 a9 a10 a11 : V N} {Q : V N → List (V N) → Sto N → Prop} (h1 : σ n = some (.inst C_Transaction [("status" : Str), ("_resources" : Str), ("_synchronizers" : Str), ("_manager" : Str), ("_adapters" : Str), ("_voted" : Str), ("extension" : Str), ("_failure_traceback" : Str), ("_before_commit" : Str), ("_after_commit" : Str), ("_before_abort" : Str), ("_after_abort" : Str)] [a0, a1, a2, a3, a4, a5, a6, a7, a8, a9, a10, a11])) (h : Q (.st (.ref f_Transaction_addBeforeCommitHook.addr)) [.ref n] σ) : PM O c ("addBeforeCommitHook" : Str) (.ref n) ρ σ Q X := .instR (f := f_Transaction_addBeforeCommitHook.addr) S.ok h1 (by kernel_rfl) (cls_Transaction S) (by rw [S.K]; kernel_rfl) h
theorem pm_Transaction__callBeforeCommitHooks (S : StL O) {n : N} {a0 a1 a2 a3 a4 a5 a6 a7 a8 a9 a10 a11 : V N} {Q : V N → List (V N) → Sto N → Prop} (h1 : σ n = some (.inst C_Transaction [("status" : Str), ("_resources" : Str), ("_synchronizers" : Str), ("_manager" : Str), ("_adapters" : Str), ("_voted" : Str), ("extension" : Str), ("_failure_traceback" : Str), ("_before_commit" : Str), ("_after_commit" : Str), ("_before_abort" : Str), ("_after_abort" : Str)] [a0, a1, a2, a3, a4, a5, a6, a7, a8, a9, a10, a11])) (h : Q (.st (.ref f_Transaction__callBeforeCommitHooks.addr)) [.ref n] σ) : PM O c ("_callBeforeCommitHooks" : Str) (.ref n) ρ σ Q X := .instR (f := f_Transaction__callBeforeCommitHooks.addr) S.ok h1 (by kernel_rfl) (cls_Transaction S) (by rw [S.K]; kernel_rfl) h
theorem pm_Transaction__commitResources (S : StL O) {n : N} {a0 a1 a2 a3 a4 a5 a6 a7 a8 a9 a10 a11 : V N} {Q : V N → List (V N) → Sto N → Prop} (h1 : σ n = some (.inst C_Transaction [("status" : Str), ("_resources" : Str), ("_synchronizers" : Str), ("_manager" : Str), ("_adapters" : Str), ("_voted" : Str), ("extension" : Str), ("_failure_traceback" : Str), ("_before_commit" : Str), ("_after_commit" : Str), ("_before_abort" : Str), ("_after_abort" : Str)] [a0, a1, a2, a3, a4, a5, a6, a7, a8, a9, a10, a11])) (h : Q (.st (.ref f_Transaction__commitResources.addr)) [.ref n] σ) : PM O c ("_commitResources" : Str) (.ref n) ρ σ Q X := .instR (f := f_Transaction__commitResources.addr) S.ok h1 (by kernel_rfl) (cls_Transaction S) (by rw [S.K]; kernel_rfl) h
theorem pm_Transaction__saveAndGetCommitishError (S : StL O) {n : N} {a0 a1 a2 a3 a4 a5 a6 a7 a8 a9 a10 a11 : V N} {Q : V N → List (V N) → Sto N → Prop} (h1 : σ n = some (.inst C_Transaction [("status" : Str), ("_resources" : Str), ("_synchronizers" : Str), ("_manager" : Str), ("_adapters" : Str), ("_voted" : Str), ("extension" : Str), ("_failure_traceback" : Str), ("_before_commit" : Str), ("_after_commit" : Str), ("_before_abort" : Str), ("_after_abort" : Str)] [a0, a1, a2, a3, a4, a5, a6, a7, a8, a9, a10, a11])) (h : Q (.st (.ref f_Transaction__saveAndGetCommitishError.addr)) [.ref n] σ) : PM O c ("_saveAndGetCommitishError" : Str) (.ref n) ρ σ Q X := .instR (f := f_Transaction__saveAndGetCommitishError.addr) S.ok h1 (by kernel_rfl) (cls_Transaction S) (by rw [S.K]; kernel_rfl) h
theorem pm_Transaction__callAfterCommitHooks (S : StL O) {n : N} {a0 a1 a2 a3 a4 a5 a6 a7 a8 a9 a10 a11 : V N} {Q : V N → List (V N) → Sto N → Prop} (h1 : σ n = some (.inst C_Transaction [("status" : Str), ("_resources" : Str), ("_synchronizers" : Str), ("_manager" : Str), ("_adapters" : Str), ("_voted" : Str), ("extension" : Str), ("_failure_traceback" : Str), ("_before_commit" : Str), ("_after_commit" : Str), ("_before_abort" : Str), ("_after_abort" : Str)] [a0, a1, a2, a3, a4, a5, a6, a7, a8, a9, a10, a11])) (h : Q (.st (.ref f_Transaction__callAfterCommitHooks.addr)) [.ref n] σ) : PM O c ("_callAfterCommitHooks" : Str) (.ref n) ρ σ Q X := .instR (f := f_Transaction__callAfterCommitHooks.addr) S.ok h1 (by kernel_rfl) (cls_Transaction S) (by rw [S.K]; kernel_rfl) h
theorem pm_Transaction__free (S : StL O) {n : N} {a0 a1 a2 a3 a4 a5 a6 a7 a8 a9 a10 a11 : V N} {Q : V N → List (V N) → Sto N → Prop} (h1 : σ n = some (.inst C_Transaction [("status" : Str), ("_resources" : Str), ("_synchronizers" : Str), ("_manager" : Str), ("_adapters" : Str), ("_voted" : Str), ("extension" : Str), ("_failure_traceback" : Str), ("_before_commit" : Str), ("_after_commit" : Str), ("_before_abort" : Str), ("_after_abort" : Str)] [a0, a1, a2, a3, a4, a5, a6, a7, a8, a9, a10, a11])) (h : Q (.st (.ref f_Transaction__free.addr)) [.ref n] σ) : PM O c ("_free" : Str) (.ref n) ρ σ Q X := .instR (f := f_Transaction__free.addr) S.ok h1 (by kernel_rfl) (cls_Transaction S) (by rw [S.K]; kernel_rfl) h
theorem pm_Transaction__free_manager (S : StL O) {n : N} {a0 a1 a2 a3 a4 a5 a6 a7 a8 a9 a10 a11 : V N} {Q : V N → List (V N) → Sto N → Prop} (h1 : σ n = some (.inst C_Transaction [("status" : Str), ("_resources" : Str), ("_synchronizers" : Str), ("_manager" : Str), ("_adapters" : Str), ("_voted" : Str), ("extension" : Str), ("_failure_traceback" : Str), ("_before_commit" : Str), ("_after_commit" : Str), ("_before_abort" : Str), ("_after_abort" : Str)] [a0, a1, a2, a3, a4, a5, a6, a7, a8, a9, a10, a11])) (h : Q (.st (.ref f_Transaction__free_manager.addr)) [.ref n] σ) : PM O c ("_free_manager" : Str) (.ref n) ρ σ Q X := .instR (f := f_Transaction__free_manager.addr) S.ok h1 (by kernel_rfl) (cls_Transaction S) (by rw [S.K]; kernel_rfl) h
theorem pm_Transaction__call_hooks (S : StL O) {n : N} {a0 a1 a2 a3 a4 a5 a6 a7 a8 a9 a10 a11 : V N} {Q : V N → List (V N) → Sto N → Prop} (h1 : σ n = some (.inst C_Transaction [("status" : Str), ("_resources" : Str), ("_synchronizers" : Str), ("_manager" : Str), ("_adapters" : Str), ("_voted" : Str), ("extension" : Str), ("_failure_traceback" : Str), ("_before_commit" : Str), ("_after_commit" : Str), ("_before_abort" : Str), ("_after_abort" : Str)] [a0, a1, a2, a3, a4, a5, a6, a7, a8, a9, a10, a11])) (h : Q (.st (.ref f_Transaction__call_hooks.addr)) [.ref n] σ) : PM O c ("_call_hooks" : Str) (.ref n) ρ σ Q X := .instR (f := f_Transaction__call_hooks.addr) S.ok h1 (by kernel_rfl) (cls_Transaction S) (by rw [S.K]; kernel_rfl) h
theorem pm_Transaction__cleanup (S : StL O) {n : N} {a0 a1 a2 a3 a4 a5 a6 a7 a8 a9 a10 a11 : V N} {Q : V N → List (V N) → Sto N → Prop} (h1 : σ n = some (.inst C_Transaction [("status" : Str), ("_resources" : Str), ("_synchronizers" : Str), ("_manager" : Str), ("_adapters" : Str), ("_voted" : Str), ("extension" : Str), ("_failure_traceback" : Str), ("_before_commit" : Str), ("_after_commit" : Str), ("_before_abort" : Str), ("_after_abort" : Str)] [a0, a1, a2, a3, a4, a5, a6, a7, a8, a9, a10, a11])) (h : Q (.st (.ref f_Transaction__cleanup.addr)) [.ref n] σ) : PM O c ("_cleanup" : Str) (.ref n) ρ σ Q X := .instR (f := f_Transaction__cleanup.addr) S.ok h1 (by kernel_rfl) (cls_Transaction S) (by rw [S.K]; kernel_rfl) h
theorem pm_Transaction__callBeforeAbortHooks (S : StL O) {n : N} {a0 a1 a2 a3 a4 a5 a6 a7 a8 a9 a10 a11 : V N} {Q : V N → List (V N) → Sto N → Prop} (h1 : σ n = some (.inst C_Transaction [("status" : Str), ("_resources" : Str), ("_synchronizers" : Str), ("_manager" : Str), ("_adapters" : Str), ("_voted" : Str), ("extension" : Str), ("_failure_traceback" : Str), ("_before_commit" : Str), ("_after_commit" : Str), ("_before_abort" : Str), ("_after_abort" : Str)] [a0, a1, a2, a3, a4, a5, a6, a7, a8, a9, a10, a11])) (h : Q (.st (.ref f_Transaction__callBeforeAbortHooks.addr)) [.ref n] σ) : PM O c ("_callBeforeAbortHooks" : Str) (.ref n) ρ σ Q X := .instR (f := f_Transaction__callBeforeAbortHooks.addr) S.ok h1 (by kernel_rfl) (cls_Transaction S) (by rw [S.K]; kernel_rfl) h
theorem pm_Transaction__callAfterAbortHooks (S : StL O) {n : N} {a0 a1 a2 a3 a4 a5 a6 a7 a8 a9 a10 a11 : V N} {Q : V N → List (V N) → Sto N → Prop} (h1 : σ n = some (.inst C_Transaction [("status" : Str), ("_resources" : Str), ("_synchronizers" : Str), ("_manager" : Str), ("_adapters" : Str), ("_voted" : Str), ("extension" : Str), ("_failure_traceback" : Str), ("_before_commit" : Str), ("_after_commit" : Str), ("_before_abort" : Str), ("_after_abort" : Str)] [a0, a1, a2, a3, a4, a5, a6, a7, a8, a9, a10, a11])) (h : Q (.st (.ref f_Transaction__callAfterAbortHooks.addr)) [.ref n] σ) : PM O c ("_callAfterAbortHooks" : Str) (.ref n) ρ σ Q X := .instR (f := f_Transaction__callAfterAbortHooks.addr) S.ok h1 (by kernel_rfl) (cls_Transaction S) (by rw [S.K]; kernel_rfl) h
theorem pm_TransactionManager_begin (S : StL O) {n : N} {a0 a1 a2 : V N} {Q : V N → List (V N) → Sto N → Prop} (h1 : σ n = some (.inst C_TransactionManager [("explicit" : Str), ("_txn" : Str), ("_synchs" : Str)] [a0, a1, a2])) (h : Q (.st (.ref f_TransactionManager_begin.addr)) [.ref n] σ) : PM O c ("begin" : Str) (.ref n) ρ σ Q X := .instR (f := f_TransactionManager_begin.addr) S.ok h1 (by kernel_rfl) (cls_TransactionManager S) (by rw [S.K]; kernel_rfl) h
theorem pm_TransactionManager_get (S : StL O) {n : N} {a0 a1 a2 : V N} {Q : V N → List (V N) → Sto N → Prop} (h1 : σ n = some (.inst C_TransactionManager [("explicit" : Str), ("_txn" : Str), ("_synchs" : Str)] [a0, a1, a2])) (h : Q (.st (.ref f_TransactionManager_get.addr)) [.ref n] σ) : PM O c ("get" : Str) (.ref n) ρ σ Q X := .instR (f := f_TransactionManager_get.addr) S.ok h1 (by kernel_rfl) (cls_TransactionManager S) (by rw [S.K]; kernel_rfl) h
theorem pm_TransactionManager_free (S : StL O) {n : N} {a0 a1 a2 : V N} {Q : V N → List (V N) → Sto N → Prop} (h1 : σ n = some (.inst C_TransactionManager [("explicit" : Str), ("_txn" : Str), ("_synchs" : Str)] [a0, a1, a2])) (h : Q (.st (.ref f_TransactionManager_free.addr)) [.ref n] σ) : PM O c ("free" : Str) (.ref n) ρ σ Q X := .instR (f := f_TransactionManager_free.addr) S.ok h1 (by kernel_rfl) (cls_TransactionManager S) (by rw [S.K]; kernel_rfl) h
theorem pm_TransactionManager_commit (S : StL O) {n : N} {a0 a1 a2 : V N} {Q : V N → List (V N) → Sto N → Prop} (h1 : σ n = some (.inst C_TransactionManager [("explicit" : Str), ("_txn" : Str), ("_synchs" : Str)] [a0, a1, a2])) (h : Q (.st (.ref f_TransactionManager_commit.addr)) [.ref n] σ) : PM O c ("commit" : Str) (.ref n) ρ σ Q X := .instR (f := f_TransactionManager_commit.addr) S.ok h1 (by kernel_rfl) (cls_TransactionManager S) (by rw [S.K]; kernel_rfl) h
theorem pm_TransactionManager_abort (S : StL O) {n : N} {a0 a1 a2 : V N} {Q : V N → List (V N) → Sto N → Prop} (h1 : σ n = some (.inst C_TransactionManager [("explicit" : Str), ("_txn" : Str), ("_synchs" : Str)] [a0, a1, a2])) (h : Q (.st (.ref f_TransactionManager_abort.addr)) [.ref n] σ) : PM O c ("abort" : Str) (.ref n) ρ σ Q X := .instR (f := f_TransactionManager_abort.addr) S.ok h1 (by kernel_rfl) (cls_TransactionManager S) (by rw [S.K]; kernel_rfl) h
theorem pm_TransactionManager_doom (S : StL O) {n : N} {a0 a1 a2 : V N} {Q : V N → List (V N) → Sto N → Prop} (h1 : σ n = some (.inst C_TransactionManager [("explicit" : Str), ("_txn" : Str), ("_synchs" : Str)] [a0, a1, a2])) (h : Q (.st (.ref f_TransactionManager_doom.addr)) [.ref n] σ) : PM O c ("doom" : Str) (.ref n) ρ σ Q X := .instR (f := f_TransactionManager_doom.addr) S.ok h1 (by kernel_rfl) (cls_TransactionManager S) (by rw [S.K]; kernel_rfl) h
theorem pm_WeakSet_map (S : StL O) {n : N} {a0 : V N} {Q : V N → List (V N) → Sto N → Prop} (h1 : σ n = some (.inst C_WeakSet [("data" : Str)] [a0])) (h : Q (.st (.ref f_WeakSet_map.addr)) [.ref n] σ) : PM O c ("map" : Str) (.ref n) ρ σ Q X := .instR (f := f_WeakSet_map.addr) S.ok h1 (by kernel_rfl) (cls_WeakSet S) (by rw [S.K]; kernel_rfl) h
theorem pm_WeakSet_as_weakref_list (S : StL O) {n : N} {a0 : V N} {Q : V N → List (V N) → Sto N → Prop} (h1 : σ n = some (.inst C_WeakSet [("data" : Str)] [a0])) (h : Q (.st (.ref f_WeakSet_as_weakref_list.addr)) [.ref n] σ) : PM O c ("as_weakref_list" : Str) (.ref n) ρ σ Q X := .instR (f := f_WeakSet_as_weakref_list.addr) S.ok h1 (by kernel_rfl) (cls_WeakSet S) (by rw [S.K]; kernel_rfl) h
theorem pm_Manager_step (S : StL O) {n : N} {a0 a1 a2 a3 a4 a5 a6 a7 : V N} {Q : V N → List (V N) → Sto N → Prop} (h1 : σ n = some (.inst C_Manager [("who" : Str), ("key" : Str), ("plan" : Str), ("log" : Str), ("deed" : Str), ("kept" : Str), ("value" : Str), ("ready" : Str)] [a0, a1, a2, a3, a4, a5, a6, a7])) (h : Q (.st (.ref f_Party_step.addr)) [.ref n] σ) : PM O c ("step" : Str) (.ref n) ρ σ Q X := .instR (f := f_Party_step.addr) S.ok h1 (by kernel_rfl) (cls_Manager S) (by rw [S.K]; kernel_rfl) h
theorem pm_Manager_abort (S : StL O) {n : N} {a0 a1 a2 a3 a4 a5 a6 a7 : V N} {Q : V N → List (V N) → Sto N → Prop} (h1 : σ n = some (.inst C_Manager [("who" : Str), ("key" : Str), ("plan" : Str), ("log" : Str), ("deed" : Str), ("kept" : Str), ("value" : Str), ("ready" : Str)] [a0, a1, a2, a3, a4, a5, a6, a7])) (h : Q (.st (.ref f_PlainManager_abort.addr)) [.ref n] σ) : PM O c ("abort" : Str) (.ref n) ρ σ Q X := .instR (f := f_PlainManager_abort.addr) S.ok h1 (by kernel_rfl) (cls_Manager S) (by rw [S.K]; kernel_rfl) h
theorem pm_Manager_tpc_begin (S : StL O) {n : N} {a0 a1 a2 a3 a4 a5 a6 a7 : V N} {Q : V N → List (V N) → Sto N → Prop} (h1 : σ n = some (.inst C_Manager [("who" : Str), ("key" : Str), ("plan" : Str), ("log" : Str), ("deed" : Str), ("kept" : Str), ("value" : Str), ("ready" : Str)] [a0, a1, a2, a3, a4, a5, a6, a7])) (h : Q (.st (.ref f_PlainManager_tpc_begin.addr)) [.ref n] σ) : PM O c ("tpc_begin" : Str) (.ref n) ρ σ Q X := .instR (f := f_PlainManager_tpc_begin.addr) S.ok h1 (by kernel_rfl) (cls_Manager S) (by rw [S.K]; kernel_rfl) h
theorem pm_Manager_commit (S : StL O) {n : N} {a0 a1 a2 a3 a4 a5 a6 a7 : V N} {Q : V N → List (V N) → Sto N → Prop} (h1 : σ n = some (.inst C_Manager [("who" : Str), ("key" : Str), ("plan" : Str), ("log" : Str), ("deed" : Str), ("kept" : Str), ("value" : Str), ("ready" : Str)] [a0, a1, a2, a3, a4, a5, a6, a7])) (h : Q (.st (.ref f_PlainManager_commit.addr)) [.ref n] σ) : PM O c ("commit" : Str) (.ref n) ρ σ Q X := .instR (f := f_PlainManager_commit.addr) S.ok h1 (by kernel_rfl) (cls_Manager S) (by rw [S.K]; kernel_rfl) h
theorem pm_Manager_tpc_vote (S : StL O) {n : N} {a0 a1 a2 a3 a4 a5 a6 a7 : V N} {Q : V N → List (V N) → Sto N → Prop} (h1 : σ n = some (.inst C_Manager [("who" : Str), ("key" : Str), ("plan" : Str), ("log" : Str), ("deed" : Str), ("kept" : Str), ("value" : Str), ("ready" : Str)] [a0, a1, a2, a3, a4, a5, a6, a7])) (h : Q (.st (.ref f_PlainManager_tpc_vote.addr)) [.ref n] σ) : PM O c ("tpc_vote" : Str) (.ref n) ρ σ Q X := .instR (f := f_PlainManager_tpc_vote.addr) S.ok h1 (by kernel_rfl) (cls_Manager S) (by rw [S.K]; kernel_rfl) h
theorem pm_Manager_tpc_finish (S : StL O) {n : N} {a0 a1 a2 a3 a4 a5 a6 a7 : V N} {Q : V N → List (V N) → Sto N → Prop} (h1 : σ n = some (.inst C_Manager [("who" : Str), ("key" : Str), ("plan" : Str), ("log" : Str), ("deed" : Str), ("kept" : Str), ("value" : Str), ("ready" : Str)] [a0, a1, a2, a3, a4, a5, a6, a7])) (h : Q (.st (.ref f_PlainManager_tpc_finish.addr)) [.ref n] σ) : PM O c ("tpc_finish" : Str) (.ref n) ρ σ Q X := .instR (f := f_PlainManager_tpc_finish.addr) S.ok h1 (by kernel_rfl) (cls_Manager S) (by rw [S.K]; kernel_rfl) h
theorem pm_Manager_tpc_abort (S : StL O) {n : N} {a0 a1 a2 a3 a4 a5 a6 a7 : V N} {Q : V N → List (V N) → Sto N → Prop} (h1 : σ n = some (.inst C_Manager [("who" : Str), ("key" : Str), ("plan" : Str), ("log" : Str), ("deed" : Str), ("kept" : Str), ("value" : Str), ("ready" : Str)] [a0, a1, a2, a3, a4, a5, a6, a7])) (h : Q (.st (.ref f_PlainManager_tpc_abort.addr)) [.ref n] σ) : PM O c ("tpc_abort" : Str) (.ref n) ρ σ Q X := .instR (f := f_PlainManager_tpc_abort.addr) S.ok h1 (by kernel_rfl) (cls_Manager S) (by rw [S.K]; kernel_rfl) h
end
end Mine
set_option maxHeartbeats 0
namespace Mine
local macro_rules | `(tactic| km_fact) => `(tactic| (rw [StL.K (by assumption)]; kernel_rfl))
local macro_rules | `(tactic| km_size) => `(tactic| first | assumption | (simp; done) | (simp; omega) | omega)
local macro_rules | `(tactic| kpt_eq) => `(tactic| first | with_reducible assumption | with_reducible exact Sto.set_self | with_reducible rfl | ((with_reducible refine' (Sto.set_ne ?hn).trans ?ht); (case hn => (first | (intro h9; cases h9; done) | with_reducible assumption | exact Ne.symm (by with_reducible assumption) | assumption | exact Ne.symm (by assumption) | (simp [*]; done))); (case ht => kpt_eq)) | assumption | exact Sto.set_self)
local macro_rules | `(tactic| kpt_hd) => `(tactic| first | exact clsB_ok (by km_fact) | exact attrB_ok (by km_fact) | exact mkB_ok (by km_fact))
local macro_rules | `(tactic| kpt_len) => `(tactic| first | exact .inl ⟨rfl, .inl ⟨rfl, rfl⟩⟩ | exact .inl ⟨rfl, .inr ⟨by decide, by decide +kernel, rfl⟩⟩ | exact .inr ⟨rfl, .inl ⟨rfl, rfl⟩⟩ | exact .inr ⟨rfl, .inr ⟨by decide, by decide +kernel, rfl⟩⟩)
local macro_rules | `(tactic| kpc_signs) => `(tactic| first
  | with_reducible refine QFin.me ?_ | with_reducible refine XFin.me ?_ | with_reducible refine AX.cons ?_ | with_reducible refine AX.nil ?_
  | ((with_reducible refine AS.me ?_); first | refine AS.ret ?_ | with_reducible refine AS.ret0 ?_ | refine AS.expr rfl ?_ | refine AS.asg ?_ | refine AS.asg2 ?_ | with_reducible refine AS.ite ?_ | with_reducible refine AS.pass ?_)
  | ((with_reducible refine ATg.me ?_); first | with_reducible refine ATg.loc ?_ | with_reducible refine ATg.attr ?_)
  | ((with_reducible refine AT.me ?_); first | with_reducible refine AT.not ?_ | with_reducible refine AT.cmp ?_ | with_reducible refine AT.bop ?_ | refine AT.val rfl ?_)
  | with_reducible refine ATs.and_cons ?_ | with_reducible refine ATs.and_nil ?_ | with_reducible refine ATs.or_cons ?_ | with_reducible refine ATs.or_nil ?_
  | with_reducible refine AEl.cons ?_ | with_reducible refine AEl.nil ?_
  | ((with_reducible refine AE.me ?_); first | with_reducible refine AE.none ?_ | with_reducible refine AE.bool ?_ | with_reducible refine AE.int ?_ | with_reducible refine AE.str ?_ | with_reducible refine AE.st (StL.ok (by assumption)) ?_ | refine AE.loc rfl ?_ | refine AE.celR rfl rfl ?_ | with_reducible refine AE.attr ?_ | with_reducible refine AE.call (StL.ok (by assumption)) ?_ | with_reducible refine AE.mcall (StL.ok (by assumption)) ?_ | refine AE.sub rfl ?_ | with_reducible refine AE.bin ?_ | with_reducible refine AE.cmp ?_ | with_reducible refine AE.not ?_ | with_reducible refine AE.neg ?_ | with_reducible refine AE.tup ?_ | refine AE.lam (StL.ok (by assumption)) (by rfl) (vs := [_]) (by rfl) ?_ | with_reducible refine AE.dct0 (StL.ok (by assumption)) ?_)
  | ((with_reducible refine P1B.me ?_); first | with_reducible refine P1B.bool ?_ | with_reducible refine P1B.none ?_ | refine P1B.lstR (by kpt_eq) (by km_size) ?_ | refine P1B.lstF (by km_size) ?_)
  | ((with_reducible refine P2.me ?_); first | refine P2.isNone (.inl ⟨rfl, rfl⟩) rfl ?_ | refine P2.isNone (.inr ⟨rfl, rfl⟩) rfl ?_ | refine P2.noneIs (.inl ⟨rfl, rfl⟩) ?_ | refine P2.noneIs (.inr ⟨rfl, rfl⟩) ?_ | refine P2.cmpI (.inl ⟨rfl, rfl⟩) ?_ | refine P2.cmpI (.inr (.inl ⟨rfl, rfl⟩)) ?_ | refine P2.cmpI (.inr (.inr (.inl ⟨rfl, rfl⟩))) ?_ | refine P2.cmpI (.inr (.inr (.inr (.inl ⟨rfl, rfl⟩)))) ?_ | refine P2.cmpI (.inr (.inr (.inr (.inr (.inl ⟨rfl, rfl⟩))))) ?_ | refine P2.cmpI (.inr (.inr (.inr (.inr (.inr ⟨rfl, rfl⟩))))) ?_ | refine P2.isStr (by decide) (by decide) (by kpt_len) ?_)
  | ((with_reducible refine And.intro ?hz ?_); (case hz => (rw [sizeLine_eq]; simp; done)))
  | refine ifT ?_ | refine ifF ?_
  | ((with_reducible refine P1.me ?_); first | with_reducible refine st_ACTIVE (by assumption) ?_ | with_reducible refine st_COMMITTING (by assumption) ?_ | with_reducible refine st_COMMITTED (by assumption) ?_ | with_reducible refine st_DOOMED (by assumption) ?_ | with_reducible refine st_COMMITFAILED (by assumption) ?_ | ((with_reducible refine' g_Transaction_status (by assumption) ?h1 ?h2 ?_); (case h1 => kpt_eq); (case h2 => (first | rfl | assumption))) | ((with_reducible refine' g_Transaction_resources (by assumption) ?h1 ?h2 ?_); (case h1 => kpt_eq); (case h2 => (first | rfl | assumption))) | ((with_reducible refine' g_Transaction_synchronizers (by assumption) ?h1 ?h2 ?_); (case h1 => kpt_eq); (case h2 => (first | rfl | assumption))) | ((with_reducible refine' g_Transaction_manager (by assumption) ?h1 ?h2 ?_); (case h1 => kpt_eq); (case h2 => (first | rfl | assumption))) | ((with_reducible refine' g_Transaction_adapters (by assumption) ?h1 ?h2 ?_); (case h1 => kpt_eq); (case h2 => (first | rfl | assumption))) | ((with_reducible refine' g_Transaction_voted (by assumption) ?h1 ?h2 ?_); (case h1 => kpt_eq); (case h2 => (first | rfl | assumption))) | ((with_reducible refine' g_Transaction_extension (by assumption) ?h1 ?h2 ?_); (case h1 => kpt_eq); (case h2 => (first | rfl | assumption))) | ((with_reducible refine' g_Transaction_failure_traceback (by assumption) ?h1 ?h2 ?_); (case h1 => kpt_eq); (case h2 => (first | rfl | assumption))) | ((with_reducible refine' g_Transaction_before_commit (by assumption) ?h1 ?h2 ?_); (case h1 => kpt_eq); (case h2 => (first | rfl | assumption))) | ((with_reducible refine' g_Transaction_after_commit (by assumption) ?h1 ?h2 ?_); (case h1 => kpt_eq); (case h2 => (first | rfl | assumption))) | ((with_reducible refine' g_Transaction_before_abort (by assumption) ?h1 ?h2 ?_); (case h1 => kpt_eq); (case h2 => (first | rfl | assumption))) | ((with_reducible refine' g_Transaction_after_abort (by assumption) ?h1 ?h2 ?_); (case h1 => kpt_eq); (case h2 => (first | rfl | assumption))) | ((with_reducible refine' g_TransactionManager_explicit (by assumption) ?h1 ?h2 ?_); (case h1 => kpt_eq); (case h2 => (first | rfl | assumption))) | ((with_reducible refine' g_TransactionManager_txn (by assumption) ?h1 ?h2 ?_); (case h1 => kpt_eq); (case h2 => (first | rfl | assumption))) | ((with_reducible refine' g_TransactionManager_synchs (by assumption) ?h1 ?h2 ?_); (case h1 => kpt_eq); (case h2 => (first | rfl | assumption))) | ((with_reducible refine' g_WeakSet_data (by assumption) ?h1 ?h2 ?_); (case h1 => kpt_eq); (case h2 => (first | rfl | assumption))) | ((with_reducible refine' g_Manager_who (by assumption) ?h1 ?h2 ?_); (case h1 => kpt_eq); (case h2 => (first | rfl | assumption))) | ((with_reducible refine' g_Manager_key (by assumption) ?h1 ?h2 ?_); (case h1 => kpt_eq); (case h2 => (first | rfl | assumption))) | ((with_reducible refine' g_Manager_plan (by assumption) ?h1 ?h2 ?_); (case h1 => kpt_eq); (case h2 => (first | rfl | assumption))) | ((with_reducible refine' g_Manager_log (by assumption) ?h1 ?h2 ?_); (case h1 => kpt_eq); (case h2 => (first | rfl | assumption))) | ((with_reducible refine' g_Manager_deed (by assumption) ?h1 ?h2 ?_); (case h1 => kpt_eq); (case h2 => (first | rfl | assumption))) | ((with_reducible refine' g_Manager_kept (by assumption) ?h1 ?h2 ?_); (case h1 => kpt_eq); (case h2 => (first | rfl | assumption))) | ((with_reducible refine' g_Manager_value (by assumption) ?h1 ?h2 ?_); (case h1 => kpt_eq); (case h2 => (first | rfl | assumption))) | ((with_reducible refine' g_Manager_ready (by assumption) ?h1 ?h2 ?_); (case h1 => kpt_eq); (case h2 => (first | rfl | assumption))) | ((with_reducible refine' P1.getN ?k1 ?k2 ?k3 ?k4 ?k5 ?_); (case k1 => exact StL.ok (by assumption)); (case k2 => kpt_eq); (case k3 => rfl); (case k4 => kpt_hd); (case k5 => km_fact)))
  | ((with_reducible refine P2U.me ?_); first | ((with_reducible refine' s_Transaction_status (by assumption) ?h1 ?_); (case h1 => kpt_eq)) | ((with_reducible refine' s_Transaction_resources (by assumption) ?h1 ?_); (case h1 => kpt_eq)) | ((with_reducible refine' s_Transaction_synchronizers (by assumption) ?h1 ?_); (case h1 => kpt_eq)) | ((with_reducible refine' s_Transaction_manager (by assumption) ?h1 ?_); (case h1 => kpt_eq)) | ((with_reducible refine' s_Transaction_adapters (by assumption) ?h1 ?_); (case h1 => kpt_eq)) | ((with_reducible refine' s_Transaction_voted (by assumption) ?h1 ?_); (case h1 => kpt_eq)) | ((with_reducible refine' s_Transaction_extension (by assumption) ?h1 ?_); (case h1 => kpt_eq)) | ((with_reducible refine' s_Transaction_failure_traceback (by assumption) ?h1 ?_); (case h1 => kpt_eq)) | ((with_reducible refine' s_Transaction_before_commit (by assumption) ?h1 ?_); (case h1 => kpt_eq)) | ((with_reducible refine' s_Transaction_after_commit (by assumption) ?h1 ?_); (case h1 => kpt_eq)) | ((with_reducible refine' s_Transaction_before_abort (by assumption) ?h1 ?_); (case h1 => kpt_eq)) | ((with_reducible refine' s_Transaction_after_abort (by assumption) ?h1 ?_); (case h1 => kpt_eq)) | ((with_reducible refine' s_TransactionManager_explicit (by assumption) ?h1 ?_); (case h1 => kpt_eq)) | ((with_reducible refine' s_TransactionManager_txn (by assumption) ?h1 ?_); (case h1 => kpt_eq)) | ((with_reducible refine' s_TransactionManager_synchs (by assumption) ?h1 ?_); (case h1 => kpt_eq)) | ((with_reducible refine' s_WeakSet_data (by assumption) ?h1 ?_); (case h1 => kpt_eq)) | ((with_reducible refine' s_Manager_who (by assumption) ?h1 ?_); (case h1 => kpt_eq)) | ((with_reducible refine' s_Manager_key (by assumption) ?h1 ?_); (case h1 => kpt_eq)) | ((with_reducible refine' s_Manager_plan (by assumption) ?h1 ?_); (case h1 => kpt_eq)) | ((with_reducible refine' s_Manager_log (by assumption) ?h1 ?_); (case h1 => kpt_eq)) | ((with_reducible refine' s_Manager_deed (by assumption) ?h1 ?_); (case h1 => kpt_eq)) | ((with_reducible refine' s_Manager_kept (by assumption) ?h1 ?_); (case h1 => kpt_eq)) | ((with_reducible refine' s_Manager_value (by assumption) ?h1 ?_); (case h1 => kpt_eq)) | ((with_reducible refine' s_Manager_ready (by assumption) ?h1 ?_); (case h1 => kpt_eq)) )
  | ((with_reducible refine PM.me ?_); first | ((with_reducible refine' pm_Transaction_join (by assumption) ?h1 ?_); (case h1 => kpt_eq)) | ((with_reducible refine' pm_Transaction_commit (by assumption) ?h1 ?_); (case h1 => kpt_eq)) | ((with_reducible refine' pm_Transaction_abort (by assumption) ?h1 ?_); (case h1 => kpt_eq)) | ((with_reducible refine' pm_Transaction_doom (by assumption) ?h1 ?_); (case h1 => kpt_eq)) | ((with_reducible refine' pm_Transaction_addBeforeCommitHook (by assumption) ?h1 ?_); (case h1 => kpt_eq)) | ((with_reducible refine' pm_Transaction__callBeforeCommitHooks (by assumption) ?h1 ?_); (case h1 => kpt_eq)) | ((with_reducible refine' pm_Transaction__commitResources (by assumption) ?h1 ?_); (case h1 => kpt_eq)) | ((with_reducible refine' pm_Transaction__saveAndGetCommitishError (by assumption) ?h1 ?_); (case h1 => kpt_eq)) | ((with_reducible refine' pm_Transaction__callAfterCommitHooks (by assumption) ?h1 ?_); (case h1 => kpt_eq)) | ((with_reducible refine' pm_Transaction__free (by assumption) ?h1 ?_); (case h1 => kpt_eq)) | ((with_reducible refine' pm_Transaction__free_manager (by assumption) ?h1 ?_); (case h1 => kpt_eq)) | ((with_reducible refine' pm_Transaction__call_hooks (by assumption) ?h1 ?_); (case h1 => kpt_eq)) | ((with_reducible refine' pm_Transaction__cleanup (by assumption) ?h1 ?_); (case h1 => kpt_eq)) | ((with_reducible refine' pm_Transaction__callBeforeAbortHooks (by assumption) ?h1 ?_); (case h1 => kpt_eq)) | ((with_reducible refine' pm_Transaction__callAfterAbortHooks (by assumption) ?h1 ?_); (case h1 => kpt_eq)) | ((with_reducible refine' pm_TransactionManager_begin (by assumption) ?h1 ?_); (case h1 => kpt_eq)) | ((with_reducible refine' pm_TransactionManager_get (by assumption) ?h1 ?_); (case h1 => kpt_eq)) | ((with_reducible refine' pm_TransactionManager_free (by assumption) ?h1 ?_); (case h1 => kpt_eq)) | ((with_reducible refine' pm_TransactionManager_commit (by assumption) ?h1 ?_); (case h1 => kpt_eq)) | ((with_reducible refine' pm_TransactionManager_abort (by assumption) ?h1 ?_); (case h1 => kpt_eq)) | ((with_reducible refine' pm_TransactionManager_doom (by assumption) ?h1 ?_); (case h1 => kpt_eq)) | ((with_reducible refine' pm_WeakSet_map (by assumption) ?h1 ?_); (case h1 => kpt_eq)) | ((with_reducible refine' pm_WeakSet_as_weakref_list (by assumption) ?h1 ?_); (case h1 => kpt_eq)) | ((with_reducible refine' pm_Manager_step (by assumption) ?h1 ?_); (case h1 => kpt_eq)) | ((with_reducible refine' pm_Manager_abort (by assumption) ?h1 ?_); (case h1 => kpt_eq)) | ((with_reducible refine' pm_Manager_tpc_begin (by assumption) ?h1 ?_); (case h1 => kpt_eq)) | ((with_reducible refine' pm_Manager_commit (by assumption) ?h1 ?_); (case h1 => kpt_eq)) | ((with_reducible refine' pm_Manager_tpc_vote (by assumption) ?h1 ?_); (case h1 => kpt_eq)) | ((with_reducible refine' pm_Manager_tpc_finish (by assumption) ?h1 ?_); (case h1 => kpt_eq)) | ((with_reducible refine' pm_Manager_tpc_abort (by assumption) ?h1 ?_); (case h1 => kpt_eq)) ) )
local macro_rules | `(tactic| kfm_signs) => `(tactic| first
  | ((with_reducible refine P2U.me ?_); first | ((with_reducible refine' n_Transaction_status (by assumption) ?h1 ?h2 ?h3 ?h4 ?_); (case h1 => kpt_eq); (case h2 => kernel_rfl); (case h3 => rfl); (case h4 => kernel_rfl)) | ((with_reducible refine' n_Transaction_resources (by assumption) ?h1 ?h2 ?h3 ?h4 ?_); (case h1 => kpt_eq); (case h2 => kernel_rfl); (case h3 => rfl); (case h4 => kernel_rfl)) | ((with_reducible refine' n_Transaction_synchronizers (by assumption) ?h1 ?h2 ?h3 ?h4 ?_); (case h1 => kpt_eq); (case h2 => kernel_rfl); (case h3 => rfl); (case h4 => kernel_rfl)) | ((with_reducible refine' n_Transaction_manager (by assumption) ?h1 ?h2 ?h3 ?h4 ?_); (case h1 => kpt_eq); (case h2 => kernel_rfl); (case h3 => rfl); (case h4 => kernel_rfl)) | ((with_reducible refine' n_Transaction_adapters (by assumption) ?h1 ?h2 ?h3 ?h4 ?_); (case h1 => kpt_eq); (case h2 => kernel_rfl); (case h3 => rfl); (case h4 => kernel_rfl)) | ((with_reducible refine' n_Transaction_voted (by assumption) ?h1 ?h2 ?h3 ?h4 ?_); (case h1 => kpt_eq); (case h2 => kernel_rfl); (case h3 => rfl); (case h4 => kernel_rfl)) | ((with_reducible refine' n_Transaction_extension (by assumption) ?h1 ?h2 ?h3 ?h4 ?_); (case h1 => kpt_eq); (case h2 => kernel_rfl); (case h3 => rfl); (case h4 => kernel_rfl)) | ((with_reducible refine' n_Transaction_failure_traceback (by assumption) ?h1 ?h2 ?h3 ?h4 ?_); (case h1 => kpt_eq); (case h2 => kernel_rfl); (case h3 => rfl); (case h4 => kernel_rfl)) | ((with_reducible refine' n_Transaction_before_commit (by assumption) ?h1 ?h2 ?h3 ?h4 ?_); (case h1 => kpt_eq); (case h2 => kernel_rfl); (case h3 => rfl); (case h4 => kernel_rfl)) | ((with_reducible refine' n_Transaction_after_commit (by assumption) ?h1 ?h2 ?h3 ?h4 ?_); (case h1 => kpt_eq); (case h2 => kernel_rfl); (case h3 => rfl); (case h4 => kernel_rfl)) | ((with_reducible refine' n_Transaction_before_abort (by assumption) ?h1 ?h2 ?h3 ?h4 ?_); (case h1 => kpt_eq); (case h2 => kernel_rfl); (case h3 => rfl); (case h4 => kernel_rfl)) | ((with_reducible refine' n_Transaction_after_abort (by assumption) ?h1 ?h2 ?h3 ?h4 ?_); (case h1 => kpt_eq); (case h2 => kernel_rfl); (case h3 => rfl); (case h4 => kernel_rfl)) | ((with_reducible refine' n_TransactionManager_explicit (by assumption) ?h1 ?h2 ?h3 ?h4 ?_); (case h1 => kpt_eq); (case h2 => kernel_rfl); (case h3 => rfl); (case h4 => kernel_rfl)) | ((with_reducible refine' n_TransactionManager_txn (by assumption) ?h1 ?h2 ?h3 ?h4 ?_); (case h1 => kpt_eq); (case h2 => kernel_rfl); (case h3 => rfl); (case h4 => kernel_rfl)) | ((with_reducible refine' n_TransactionManager_synchs (by assumption) ?h1 ?h2 ?h3 ?h4 ?_); (case h1 => kpt_eq); (case h2 => kernel_rfl); (case h3 => rfl); (case h4 => kernel_rfl)) | ((with_reducible refine' n_WeakSet_data (by assumption) ?h1 ?h2 ?h3 ?h4 ?_); (case h1 => kpt_eq); (case h2 => kernel_rfl); (case h3 => rfl); (case h4 => kernel_rfl)) | ((with_reducible refine' n_Manager_who (by assumption) ?h1 ?h2 ?h3 ?h4 ?_); (case h1 => kpt_eq); (case h2 => kernel_rfl); (case h3 => rfl); (case h4 => kernel_rfl)) | ((with_reducible refine' n_Manager_key (by assumption) ?h1 ?h2 ?h3 ?h4 ?_); (case h1 => kpt_eq); (case h2 => kernel_rfl); (case h3 => rfl); (case h4 => kernel_rfl)) | ((with_reducible refine' n_Manager_plan (by assumption) ?h1 ?h2 ?h3 ?h4 ?_); (case h1 => kpt_eq); (case h2 => kernel_rfl); (case h3 => rfl); (case h4 => kernel_rfl)) | ((with_reducible refine' n_Manager_log (by assumption) ?h1 ?h2 ?h3 ?h4 ?_); (case h1 => kpt_eq); (case h2 => kernel_rfl); (case h3 => rfl); (case h4 => kernel_rfl)) | ((with_reducible refine' n_Manager_deed (by assumption) ?h1 ?h2 ?h3 ?h4 ?_); (case h1 => kpt_eq); (case h2 => kernel_rfl); (case h3 => rfl); (case h4 => kernel_rfl)) | ((with_reducible refine' n_Manager_kept (by assumption) ?h1 ?h2 ?h3 ?h4 ?_); (case h1 => kpt_eq); (case h2 => kernel_rfl); (case h3 => rfl); (case h4 => kernel_rfl)) | ((with_reducible refine' n_Manager_value (by assumption) ?h1 ?h2 ?h3 ?h4 ?_); (case h1 => kpt_eq); (case h2 => kernel_rfl); (case h3 => rfl); (case h4 => kernel_rfl)) | ((with_reducible refine' n_Manager_ready (by assumption) ?h1 ?h2 ?h3 ?h4 ?_); (case h1 => kpt_eq); (case h2 => kernel_rfl); (case h3 => rfl); (case h4 => kernel_rfl)) ) | kpc_signs)
section
variable {N : Type} {O : Om} {c : Cx N} {ρ : Loc N} {σ : Sto N} {Q X : V N → Sto N → Prop}
theorem ws_list (S : StL O) (hD : 1 ≤ c.D) {n d : N} (h1 : σ n = some (.inst C_WeakSet ["data"] [.ref d])) (h2 : σ d = some (.list [])) (h : Q (.lst []) σ) : PCc O c (.st (.ref f_WeakSet_as_weakref_list.addr)) [.ref n] [] [] ρ σ Q X := by
  refine PCc.goP (e := f_WeakSet_as_weakref_list) (bv := [.ref n]) S.ok (F_WeakSet_as_weakref_list S) hD (Nat.le_of_ble_eq_true rfl) (Nat.le_of_ble_eq_true rfl) (Nat.le_of_ble_eq_true rfl) rfl ?_
  repeat kpc_signs
  refine PC.list (.inl rfl) (items_ref h2) (by simp) ?_
  exact h
theorem ws_init (S : StL O) (hD : 1 ≤ c.D) {n d : N} (h1 : σ n = some (.inst C_WeakSet [] [])) (h2 : σ d = Option.none) (h : Q .none ((σ.set d (.list [])).set n (.inst C_WeakSet ["data"] [.ref d]))) : PCc O c (.st (.ref f_WeakSet___init__.addr)) [.ref n] [] [] ρ σ Q X := by
  refine PCc.goP (e := f_WeakSet___init__) (bv := [.ref n]) S.ok (F_WeakSet___init__ S) hD (Nat.le_of_ble_eq_true rfl) (Nat.le_of_ble_eq_true rfl) (Nat.le_of_ble_eq_true rfl) rfl ?_
  repeat kfm_signs
  refine AE.lstN d ⟨by simp, h2, ?_⟩
  have hne : n ≠ d := fun e => by rw [e, h2] at h1; cases h1
  repeat kfm_signs
  exact h
theorem ws_make (S : StL O) (hD : 2 ≤ c.D) {n d : N} (h1 : σ n = Option.none) (h2 : σ d = Option.none) (hne : d ≠ n) (h : Q (.ref n) (((σ.set n (.inst C_WeakSet [] [])).set d (.list [])).set n (.inst C_WeakSet ["data"] [.ref d]))) : PCc O c (.st g_WeakSet) [] [] [] ρ σ Q X := by
  refine PCc.make (f := f_WeakSet___init__.addr) (D' := c.D - 1) S.ok (by kpt_hd) h1 (by omega) ?_
  refine ws_init S (by show 1 ≤ c.D - 1; omega) Sto.set_self ((Sto.set_ne hne).trans h2) ?_
  exact ⟨rfl, h⟩
theorem ws_len (S : StL O) (hD : 2 ≤ c.D) {n d : N} (h1 : σ n = some (.inst C_WeakSet ["data"] [.ref d])) (h2 : σ d = some (.list [])) {Q : Bool → Sto N → Prop} (h : Q false σ) : P1B O c truthy (.ref n) ρ σ Q X := by
  refine P1B.byLen (f := f_WeakSet___len__.addr) (D' := c.D - 1) (k := 0) S.ok h1 (by km_fact) (by km_fact) (by km_fact) (by omega) (by decide) (by decide) (PCc.pc ?_)
  refine PCc.goP (e := f_WeakSet___len__) (bv := [.ref n]) S.ok (F_WeakSet___len__ S) (by show 1 ≤ c.D - 1; omega) (Nat.le_of_ble_eq_true rfl) (Nat.le_of_ble_eq_true rfl) (Nat.le_of_ble_eq_true rfl) rfl ?_
  repeat kpc_signs
  refine PC.len rfl (items_ref h2) (by simp) ?_
  exact ⟨rfl, h⟩
theorem ws_map (S : StL O) (hD : 2 ≤ c.D) (hg : c.hd.good = true) {n d : N} {f : V N} (h1 : σ n = some (.inst C_WeakSet ["data"] [.ref d])) (h2 : σ d = some (.list [])) (h : Q .none σ) : PCc O c (.st (.ref f_WeakSet_map.addr)) [.ref n, f] [] [] ρ σ Q X := by
  refine PCc.goP (e := f_WeakSet_map) (bv := [.ref n, f]) S.ok (F_WeakSet_map S) (by omega) (Nat.le_of_ble_eq_true rfl) (Nat.le_of_ble_eq_true rfl) (Nat.le_of_ble_eq_true rfl) rfl ?_
  repeat kpc_signs
  refine AS.forL hg ?_
  repeat kpc_signs
  refine PCc.pc (ws_list S (by show 1 ≤ c.D - 1; omega) h1 h2 ?_)
  refine ⟨[], .inl rfl, rfl, ?_⟩
  refine AX.nil ?_
  exact h
end
def tns : List Str := ["status", "_resources", "_synchronizers", "_manager", "_adapters", "_voted", "extension", "_failure_traceback", "_before_commit", "_after_commit", "_before_abort", "_after_abort"]
section
variable {N : Type} {O : Om} {c : Cx N} {ρ : Loc N} {σ : Sto N} {Q X : V N → Sto N → Prop}
abbrev txnO (st syn man ad vo ex ft : V N) (res bc ac ba aa : N) : AO N := .inst C_Transaction tns [st, .ref res, syn, man, ad, vo, ex, ft, .ref bc, .ref ac, .ref ba, .ref aa]
abbrev tmO (tx : V N) (ws : N) : AO N := .inst C_TransactionManager ["explicit", "_txn", "_synchs"] [.bool false, tx, .ref ws]
abbrev wsO (d : N) : AO N := .inst C_WeakSet ["data"] [.ref d]
theorem txn_init (S : StL O) (hD : 1 ≤ c.D) {t res bc ac ba aa w m : N} (ht : σ t = some (.inst C_Transaction [] [])) (h1 : σ res = Option.none) (h2 : σ bc = Option.none) (h3 : σ ac = Option.none) (h4 : σ ba = Option.none) (h5 : σ aa = Option.none) (hd : [t, res, bc, ac, ba, aa].Nodup)
    (h : ∀ σ', σ' t = some (txnO (.st s_ACTIVE) (.ref w) (.ref m) (.dct [] []) (.lst []) (.dct [] []) .none res bc ac ba aa) → σ' res = some (.list []) → σ' bc = some (.list []) → σ' ac = some (.list []) → σ' ba = some (.list []) → σ' aa = some (.list []) → (∀ n, n ∉ [t, res, bc, ac, ba, aa] → σ' n = σ n) → Q .none σ') :
    PCc O c (.st (.ref f_Transaction___init__.addr)) [.ref t, .ref w, .ref m] [] [] ρ σ Q X := by
  simp only [List.nodup_cons, List.mem_cons, not_or, List.not_mem_nil, not_false_eq_true, and_true, List.nodup_nil] at hd
  obtain ⟨⟨a1, a2, a3, a4, a5⟩, ⟨b1, b2, b3, b4⟩, ⟨c1, c2, c3⟩, ⟨d1, d2⟩, e1⟩ := hd
  refine PCc.goP (e := f_Transaction___init__) (bv := [.ref t, .ref w, .ref m]) S.ok (F_Transaction___init__ S) hD (Nat.le_of_ble_eq_true rfl) (Nat.le_of_ble_eq_true rfl) (Nat.le_of_ble_eq_true rfl) rfl ?_
  repeat kfm_signs
  refine AE.lstN res ⟨by simp, by kpt_eq, ?_⟩
  repeat kfm_signs
  refine AE.lst ⟨by simp, ?_⟩
  repeat kfm_signs
  refine AE.lstN bc ⟨by simp, by kpt_eq, ?_⟩
  repeat kfm_signs
  refine AE.lstN ac ⟨by simp, by kpt_eq, ?_⟩
  repeat kfm_signs
  refine AE.lstN ba ⟨by simp, by kpt_eq, ?_⟩
  repeat kfm_signs
  refine AE.lstN aa ⟨by simp, by kpt_eq, ?_⟩
  repeat kfm_signs
  refine h _ (by kpt_eq) (by kpt_eq) (by kpt_eq) (by kpt_eq) (by kpt_eq) (by kpt_eq) fun n hn => ?_
  simp only [List.mem_cons, not_or, List.not_mem_nil, not_false_eq_true, and_true] at hn
  obtain ⟨n1, n2, n3, n4, n5, n6⟩ := hn
  kpt_eq
end
section
variable {N : Type} {O : Om} {c : Cx N} {ρ : Loc N} {σ : Sto N} {Q X : V N → Sto N → Prop}
theorem txn_make (S : StL O) (hD : 2 ≤ c.D) {t res bc ac ba aa w m : N} (ht : σ t = Option.none) (h1 : σ res = Option.none) (h2 : σ bc = Option.none) (h3 : σ ac = Option.none) (h4 : σ ba = Option.none) (h5 : σ aa = Option.none) (hd : [t, res, bc, ac, ba, aa].Nodup)
    (h : ∀ σ', σ' t = some (txnO (.st s_ACTIVE) (.ref w) (.ref m) (.dct [] []) (.lst []) (.dct [] []) .none res bc ac ba aa) → σ' res = some (.list []) → σ' bc = some (.list []) → σ' ac = some (.list []) → σ' ba = some (.list []) → σ' aa = some (.list []) → (∀ n, n ∉ [t, res, bc, ac, ba, aa] → σ' n = σ n) → Q (.ref t) σ') :
    PCc O c (.st g_Transaction) [.ref w, .ref m] [] [] ρ σ Q X := by
  refine PCc.make (f := f_Transaction___init__.addr) (D' := c.D - 1) S.ok (by kpt_hd) ht (by omega) ?_
  have hd' := hd
  simp only [List.nodup_cons, List.mem_cons, not_or, List.not_mem_nil, not_false_eq_true, and_true, List.nodup_nil] at hd'
  obtain ⟨⟨a1, a2, a3, a4, a5⟩, -⟩ := hd'
  refine txn_init S (by show 1 ≤ c.D - 1; omega) Sto.set_self (by kpt_eq) (by kpt_eq) (by kpt_eq) (by kpt_eq) (by kpt_eq) hd fun σ' g0 g1 g2 g3 g4 g5 g6 => ⟨rfl, h σ' g0 g1 g2 g3 g4 g5 fun n hn => ?_⟩
  rw [g6 n hn, Sto.set_ne (fun e => hn (by rw [e]; simp))]
theorem tm_init (S : StL O) (hD : 3 ≤ c.D) {m w d : N} (hm : σ m = some (.inst C_TransactionManager [] [])) (h1 : σ w = Option.none) (h2 : σ d = Option.none) (hd : d ≠ w) (h : ∀ σ', σ' m = some (tmO .none w) → σ' w = some (wsO d) → σ' d = some (.list []) → (∀ n, n ≠ m → n ≠ w → n ≠ d → σ' n = σ n) → Q .none σ') : PCc O c (.st (.ref f_TransactionManager___init__.addr)) [.ref m] [] [] ρ σ Q X := by
  have hw : w ≠ m := fun e => by rw [e, hm] at h1; cases h1
  have hdm : d ≠ m := fun e => by rw [e, hm] at h2; cases h2
  refine PCc.goP (e := f_TransactionManager___init__) (bv := [.ref m, .bool false]) S.ok (F_TransactionManager___init__ S) (by omega) (Nat.le_of_ble_eq_true rfl) (Nat.le_of_ble_eq_true rfl) (Nat.le_of_ble_eq_true rfl) rfl ?_
  repeat kfm_signs
  refine PCc.pc (ws_make S (n := w) (d := d) (by show 2 ≤ c.D - 1; omega) (by kpt_eq) (by kpt_eq) hd ?_)
  repeat kfm_signs
  refine h _ (by kpt_eq) (by kpt_eq) (by kpt_eq) fun n n1 n2 n3 => ?_
  kpt_eq
theorem tm_make (S : StL O) (hD : 4 ≤ c.D) {m w d : N} (hm : σ m = Option.none) (h1 : σ w = Option.none) (h2 : σ d = Option.none) (hd : d ≠ w) (hw : w ≠ m) (hdm : d ≠ m) (h : ∀ σ', σ' m = some (tmO .none w) → σ' w = some (wsO d) → σ' d = some (.list []) → (∀ n, n ≠ m → n ≠ w → n ≠ d → σ' n = σ n) → Q (.ref m) σ') : PCc O c (.st g_TransactionManager) [] [] [] ρ σ Q X := by
  refine PCc.make (f := f_TransactionManager___init__.addr) (D' := c.D - 1) S.ok (by kpt_hd) hm (by omega) ?_
  refine tm_init S (by show 3 ≤ c.D - 1; omega) Sto.set_self (by kpt_eq) (by kpt_eq) hd fun σ' g0 g1 g2 g3 => ⟨rfl, h σ' g0 g1 g2 fun n n1 n2 n3 => ?_⟩
  rw [g3 n n1 n2 n3, Sto.set_ne n1]
theorem new_txn (S : StL O) (hD : 3 ≤ c.D) {w d : N} {t : V N} (h1 : σ w = some (wsO d)) (h2 : σ d = some (.list [])) (h : Q .none σ) : PCc O c (.st g__new_transaction) [t, .ref w] [] [] ρ σ Q X := by
  refine PCc.goP (e := f__new_transaction) (bv := [t, .ref w]) S.ok (F__new_transaction S) (by omega) (Nat.le_of_ble_eq_true rfl) (Nat.le_of_ble_eq_true rfl) (Nat.le_of_ble_eq_true rfl) rfl ?_
  repeat kpc_signs
  refine ws_len S (by show 2 ≤ c.D - 1; omega) h1 h2 ?_
  repeat kpc_signs
  exact h
theorem tm_begin (S : StL O) (hD : 4 ≤ c.D) {m w d t res bc ac ba aa : N} (hm : σ m = some (tmO .none w)) (hw : σ w = some (wsO d)) (hd : σ d = some (.list [])) (ht : σ t = Option.none) (h1 : σ res = Option.none) (h2 : σ bc = Option.none) (h3 : σ ac = Option.none) (h4 : σ ba = Option.none) (h5 : σ aa = Option.none) (hdd : [t, res, bc, ac, ba, aa].Nodup)
    (h : ∀ σ', σ' m = some (tmO (.ref t) w) → σ' t = some (txnO (.st s_ACTIVE) (.ref w) (.ref m) (.dct [] []) (.lst []) (.dct [] []) .none res bc ac ba aa) → σ' res = some (.list []) → σ' bc = some (.list []) → σ' ac = some (.list []) → σ' ba = some (.list []) → σ' aa = some (.list []) → (∀ n, n ∉ [m, t, res, bc, ac, ba, aa] → σ' n = σ n) → Q (.ref t) σ') :
    PCc O c (.st (.ref f_TransactionManager_begin.addr)) [.ref m] [] [] ρ σ Q X := by
  refine PCc.goP (e := f_TransactionManager_begin) (bv := [.ref m]) S.ok (F_TransactionManager_begin S) (by omega) (Nat.le_of_ble_eq_true rfl) (Nat.le_of_ble_eq_true rfl) (Nat.le_of_ble_eq_true rfl) rfl ?_
  repeat kpc_signs
  refine PCc.pc (txn_make S (t := t) (res := res) (bc := bc) (ac := ac) (ba := ba) (aa := aa) (by show 2 ≤ c.D - 1; omega) ht h1 h2 h3 h4 h5 hdd fun σ' g0 g1 g2 g3 g4 g5 g6 => ?_)
  have nm : ∀ {n o}, σ n = some o → n ∉ [t, res, bc, ac, ba, aa] := fun {n o} hn hmem => by
    simp only [List.mem_cons, List.not_mem_nil, or_false] at hmem
    rcases hmem with rfl | rfl | rfl | rfl | rfl | rfl <;> simp_all
  have gm := (g6 m (nm hm)).trans hm
  have gw := (g6 w (nm hw)).trans hw
  have gd := (g6 d (nm hd)).trans hd
  have hwm : w ≠ m := fun e => by rw [e, hm] at hw; cases hw
  have hdm : d ≠ m := fun e => by rw [e, hm] at hd; cases hd
  have nms := nm hm
  simp only [List.mem_cons, not_or, List.not_mem_nil, not_false_eq_true, and_true] at nms
  obtain ⟨m1, m2, m3, m4, m5, m6⟩ := nms
  repeat kpc_signs
  refine PCc.pc (new_txn S (by show 3 ≤ c.D - 1; omega) (d := d) (by kpt_eq) (by kpt_eq) ?_)
  repeat kpc_signs
  refine h _ (by kpt_eq) (by kpt_eq) (by kpt_eq) (by kpt_eq) (by kpt_eq) (by kpt_eq) (by kpt_eq) fun n hn => ?_
  simp only [List.mem_cons, not_or] at hn
  rw [Sto.set_ne hn.1]
  exact g6 n (by simp only [List.mem_cons, not_or]; exact hn.2)
end
def pns : List Str := ["who", "key", "plan", "log", "deed", "kept", "value", "ready"]
section
variable {N : Type} {O : Om} {c : Cx N} {ρ : Loc N} {σ : Sto N} {Q X : V N → Sto N → Prop}
abbrev pmO (who key plan : V N) (log : N) (kept value ready : V N) : AO N := .inst C_Manager pns [who, key, plan, .ref log, .none, kept, value, ready]
abbrev rowV (what : Str) (who : V N) : V N := .tup [.str what, who]
theorem step_ok (S : StL O) (hD : 1 ≤ c.D) {p log : N} {who key kept value ready tx : V N} {ks : List Str} {vs rows : List (V N)} {what : Str} (hp : σ p = some (pmO who key (.dct (ks.map V.str) vs) log kept value ready)) (hw : who.hands = true) (hl : σ log = some (.list rows)) (hz : rows.length < 1000000) (hn : ks.Nodup) (hk : (dget ks vs what).getD (.int 0) = .int 0)
    (h : Q .none (σ.set log (.list (rows ++ [rowV what who])))) : PCc O c (.st (.ref f_Party_step.addr)) [.ref p, .str what, tx] [] [] ρ σ Q X := by
  have hpl : p ≠ log := fun e => by rw [e, hl] at hp; cases hp
  refine PCc.goP (e := f_Party_step) (bv := [.ref p, .str what, tx]) S.ok (F_Party_step S) (by omega) (Nat.le_of_ble_eq_true rfl) (Nat.le_of_ble_eq_true rfl) (Nat.le_of_ble_eq_true rfl) rfl ?_
  repeat kpc_signs
  refine PM.append hl ?_
  repeat kpc_signs
  refine PC.append hl hz ?_
  repeat kpc_signs
  refine PM.getD (kv := keyStr O N) (ks := ks) (vs := vs) (.inl rfl) ?_
  repeat kpc_signs
  refine PC.getD (ks := ks) (vs := vs) (k := what) S.ok (keyStr O N) (.inl rfl) hn ?_
  rw [hk]
  repeat kpc_signs
  exact h
def excStB (K : Frag) (C : Addr) : Bool := isFnd (findIn K (.ref C) "__setattr__") (some (.builtin "object.__setattr__")) && (match clsIn K C with | some cd => decide (cd.mro = .ref C :: excBM) && cd.hasDict | none => false)
theorem excStB_ok {K : Frag} {C : Addr} (h : excStB K C = true) : ExcSt K C := by
  unfold excStB isFnd at h
  rw [Bool.and_eq_true, decide_eq_true_eq] at h
  obtain ⟨h1, h2⟩ := h
  split at h2
  · rename_i cd e
    rw [Bool.and_eq_true, decide_eq_true_eq] at h2
    exact ⟨h1, cd, e, h2.1, h2.2⟩
  · cases h2
theorem excMk (S : StL O) {C : Addr} (h : (excInI O.K C && callB O.K C) = true) : ExcMk O C := by
  rw [Bool.and_eq_true] at h
  exact ⟨h.1, callB_ok h.2⟩
def excClsB (K : Frag) (C : Value) : Bool := decide (subIn K C (.type "BaseException") = some true) && decide (typeIn K C = some (.type "type"))
theorem excClsB_ok {C : Value} (h : excClsB O.K C = true) : ExcCls O C := by
  unfold excClsB at h
  rw [Bool.and_eq_true, decide_eq_true_eq, decide_eq_true_eq] at h
  exact ⟨h.1, h.2⟩
abbrev refusal (who what : V N) : V N := .exc (.ref C_Refusal) true ["who", "what"] [who, what]
theorem refusal_cls (S : StL O) : ExcCls O (.ref C_Refusal) := excClsB_ok (by km_fact)
theorem refusal_new (S : StL O) (hD : 2 ≤ c.D) {who what : V N} (h : Q (refusal who what) σ) : PC O c (.st g_Refusal) [who, what] [] [] ρ σ Q X := by
  have F := F_Refusal___init__ (N := N) S
  refine PC.excOwn (fI := f_Refusal___init__.addr) (r := rowAt O.K f_Refusal___init__.addr) (nest := false) (p0 := "self") (p1 := "who") (p2 := "what") (x1 := "who") (x2 := "what") (D' := c.D - 2) S.ok (excMk S (by km_fact)) (excStB_ok (by km_fact)) (by km_fact) (by km_fact) F.st F.row F.cb (by km_fact) (by km_fact) (by decide +kernel) (fun a b d => ?_) (by km_fact) (by omega) h
  have e1 : bindP ["self", "who", "what"] [] [a, b, d] [] = (["self", "who", "what"] : List Str).zip [a, b, d] := by kernel_rfl
  rw [e1, show (["self", "who", "what"] : List Str) = f_Refusal___init__.ns from rfl, locN_eq F.row.nodup F.names.2 rfl, F.names.1]
  exact ⟨by kernel_rfl, rfl, rfl, rfl⟩
theorem step_bad (S : StL O) (hD : 3 ≤ c.D) (hh : c.hd = .no) {p log : N} {who key kept value ready tx : V N} {ks : List Str} {vs rows : List (V N)} {what : Str} (hp : σ p = some (pmO who key (.dct (ks.map V.str) vs) log kept value ready)) (hw : who.hands = true) (hl : σ log = some (.list rows)) (hz : rows.length < 1000000) (hn : ks.Nodup) (hk : (dget ks vs what).getD (.int 0) = .int 1)
    (h : X (refusal who (.str what)) (σ.set log (.list (rows ++ [rowV what who])))) : PCc O c (.st (.ref f_Party_step.addr)) [.ref p, .str what, tx] [] [] ρ σ Q X := by
  have hpl : p ≠ log := fun e => by rw [e, hl] at hp; cases hp
  refine PCc.goP (e := f_Party_step) (bv := [.ref p, .str what, tx]) S.ok (F_Party_step S) (by omega) (Nat.le_of_ble_eq_true rfl) (Nat.le_of_ble_eq_true rfl) (Nat.le_of_ble_eq_true rfl) rfl ?_
  repeat kpc_signs
  refine PM.append hl ?_
  repeat kpc_signs
  refine PC.append hl hz ?_
  repeat kpc_signs
  refine PM.getD (kv := keyStr O N) (ks := ks) (vs := vs) (.inl rfl) ?_
  repeat kpc_signs
  refine PC.getD (ks := ks) (vs := vs) (k := what) S.ok (keyStr O N) (.inl rfl) hn ?_
  rw [hk]
  repeat kpc_signs
  refine AS.raise S.ok ?_
  repeat kpc_signs
  refine refusal_new S (by show 2 ≤ c.D - 1; omega) ?_
  exact ⟨_, _, _, _, rfl, refusal_cls S, by rw [hh]; trivial, h⟩
end
section
variable {N : Type} {O : Om} {c : Cx N} {ρ : Loc N} {σ : Sto N} {Q X : V N → Sto N → Prop}
variable {p log : N} {who key kept value ready : V N} {tx : V N} {ks : List Str} {vs rows : List (V N)}
theorem pm_begin (S : StL O) (hD : 2 ≤ c.D) (hp : σ p = some (pmO who key (.dct (ks.map V.str) vs) log kept value ready)) (hw : who.hands = true) (hl : σ log = some (.list rows)) (hz : rows.length < 1000000) (hn : ks.Nodup) (hk : (dget ks vs ("tpc_begin" : Str)).getD (.int 0) = .int 0)
    (h : Q .none (σ.set log (.list (rows ++ [rowV "tpc_begin" who])))) : PCc O c (.st (.ref f_PlainManager_tpc_begin.addr)) [.ref p, tx] [] [] ρ σ Q X := by
  refine PCc.goP (e := f_PlainManager_tpc_begin) (bv := [.ref p, tx]) S.ok (F_PlainManager_tpc_begin S) (by omega) (Nat.le_of_ble_eq_true rfl) (Nat.le_of_ble_eq_true rfl) (Nat.le_of_ble_eq_true rfl) rfl ?_
  repeat kpc_signs
  refine PCc.pc (step_ok S (by show 1 ≤ c.D - 1; omega) hp hw hl hz hn hk ?_)
  repeat kpc_signs
  exact h
theorem pm_commit (S : StL O) (hD : 2 ≤ c.D) (hp : σ p = some (pmO who key (.dct (ks.map V.str) vs) log kept value ready)) (hw : who.hands = true) (hv : value.hands = true) (hl : σ log = some (.list rows)) (hz : rows.length < 1000000) (hn : ks.Nodup) (hk : (dget ks vs ("commit" : Str)).getD (.int 0) = .int 0)
    (h : Q .none ((σ.set log (.list (rows ++ [rowV "commit" who]))).set p (pmO who key (.dct (ks.map V.str) vs) log kept value (.lst [value])))) : PCc O c (.st (.ref f_PlainManager_commit.addr)) [.ref p, tx] [] [] ρ σ Q X := by
  have hpl : p ≠ log := fun e => by rw [e, hl] at hp; cases hp
  refine PCc.goP (e := f_PlainManager_commit) (bv := [.ref p, tx]) S.ok (F_PlainManager_commit S) (by omega) (Nat.le_of_ble_eq_true rfl) (Nat.le_of_ble_eq_true rfl) (Nat.le_of_ble_eq_true rfl) rfl ?_
  repeat kpc_signs
  refine PCc.pc (step_ok S (by show 1 ≤ c.D - 1; omega) hp hw hl hz hn hk ?_)
  repeat kpc_signs
  refine AE.lst ?_
  repeat kpc_signs
  exact h
theorem pm_vote (S : StL O) (hD : 2 ≤ c.D) (hp : σ p = some (pmO who key (.dct (ks.map V.str) vs) log kept value ready)) (hw : who.hands = true) (hl : σ log = some (.list rows)) (hz : rows.length < 1000000) (hn : ks.Nodup) (hk : (dget ks vs ("tpc_vote" : Str)).getD (.int 0) = .int 0)
    (h : Q .none (σ.set log (.list (rows ++ [rowV "tpc_vote" who])))) : PCc O c (.st (.ref f_PlainManager_tpc_vote.addr)) [.ref p, tx] [] [] ρ σ Q X := by
  refine PCc.goP (e := f_PlainManager_tpc_vote) (bv := [.ref p, tx]) S.ok (F_PlainManager_tpc_vote S) (by omega) (Nat.le_of_ble_eq_true rfl) (Nat.le_of_ble_eq_true rfl) (Nat.le_of_ble_eq_true rfl) rfl ?_
  repeat kpc_signs
  refine PCc.pc (step_ok S (by show 1 ≤ c.D - 1; omega) hp hw hl hz hn hk ?_)
  repeat kpc_signs
  exact h
theorem pm_vote_bad (S : StL O) (hD : 4 ≤ c.D) (hh : c.hd = .no) (hp : σ p = some (pmO who key (.dct (ks.map V.str) vs) log kept value ready)) (hw : who.hands = true) (hl : σ log = some (.list rows)) (hz : rows.length < 1000000) (hn : ks.Nodup) (hk : (dget ks vs ("tpc_vote" : Str)).getD (.int 0) = .int 1)
    (h : X (refusal who (.str "tpc_vote")) (σ.set log (.list (rows ++ [rowV "tpc_vote" who])))) : PCc O c (.st (.ref f_PlainManager_tpc_vote.addr)) [.ref p, tx] [] [] ρ σ Q X := by
  refine PCc.goP (e := f_PlainManager_tpc_vote) (bv := [.ref p, tx]) S.ok (F_PlainManager_tpc_vote S) (by omega) (Nat.le_of_ble_eq_true rfl) (Nat.le_of_ble_eq_true rfl) (Nat.le_of_ble_eq_true rfl) rfl ?_
  repeat kpc_signs
  refine PCc.pc (step_bad S (by show 3 ≤ c.D - 1; omega) (by exact hh) hp hw hl hz hn hk ?_)
  exact h
theorem pm_finish (S : StL O) (hD : 2 ≤ c.D) {v : V N} (hp : σ p = some (pmO who key (.dct (ks.map V.str) vs) log kept value (.lst [v]))) (hw : who.hands = true) (hl : σ log = some (.list rows)) (hz : rows.length < 1000000) (hn : ks.Nodup) (hk : (dget ks vs ("tpc_finish" : Str)).getD (.int 0) = .int 0)
    (h : ∀ σ', σ' log = some (.list (rows ++ [rowV "tpc_finish" who])) → σ' p = some (pmO who key (.dct (ks.map V.str) vs) log v value .none) → (∀ n, n ≠ log → n ≠ p → σ' n = σ n) → Q .none σ') : PCc O c (.st (.ref f_PlainManager_tpc_finish.addr)) [.ref p, tx] [] [] ρ σ Q X := by
  have hpl : p ≠ log := fun e => by rw [e, hl] at hp; cases hp
  refine PCc.goP (e := f_PlainManager_tpc_finish) (bv := [.ref p, tx]) S.ok (F_PlainManager_tpc_finish S) (by omega) (Nat.le_of_ble_eq_true rfl) (Nat.le_of_ble_eq_true rfl) (Nat.le_of_ble_eq_true rfl) rfl ?_
  repeat kpc_signs
  refine PCc.pc (step_ok S (by show 1 ≤ c.D - 1; omega) hp hw hl hz hn hk ?_)
  repeat kpc_signs
  refine PI.lst (i := 0) (x := v) rfl rfl rfl (by decide) ?_
  repeat kpc_signs
  exact h _ (by kpt_eq) (by kpt_eq) fun n n1 n2 => by kpt_eq
theorem pm_abort (S : StL O) (hD : 2 ≤ c.D) (hp : σ p = some (pmO who key (.dct (ks.map V.str) vs) log kept value ready)) (hw : who.hands = true) (hkp : kept.hands = true) (hl : σ log = some (.list rows)) (hz : rows.length < 1000000) (hn : ks.Nodup) (hk : (dget ks vs ("abort" : Str)).getD (.int 0) = .int 0)
    (h : ∀ σ', σ' log = some (.list (rows ++ [rowV "abort" who])) → σ' p = some (pmO who key (.dct (ks.map V.str) vs) log kept kept .none) → (∀ n, n ≠ log → n ≠ p → σ' n = σ n) → Q .none σ') : PCc O c (.st (.ref f_PlainManager_abort.addr)) [.ref p, tx] [] [] ρ σ Q X := by
  have hpl : p ≠ log := fun e => by rw [e, hl] at hp; cases hp
  refine PCc.goP (e := f_PlainManager_abort) (bv := [.ref p, tx]) S.ok (F_PlainManager_abort S) (by omega) (Nat.le_of_ble_eq_true rfl) (Nat.le_of_ble_eq_true rfl) (Nat.le_of_ble_eq_true rfl) rfl ?_
  repeat kpc_signs
  refine PCc.pc (step_ok S (by show 1 ≤ c.D - 1; omega) (ks := ks) (vs := vs) (by kpt_eq) hw (by kpt_eq) hz hn hk ?_)
  repeat kpc_signs
  exact h _ (by kpt_eq) (by kpt_eq) fun n n1 n2 => by kpt_eq
theorem pm_tpc_abort (S : StL O) (hD : 2 ≤ c.D) (hp : σ p = some (pmO who key (.dct (ks.map V.str) vs) log kept value ready)) (hw : who.hands = true) (hkp : kept.hands = true) (hl : σ log = some (.list rows)) (hz : rows.length < 1000000) (hn : ks.Nodup) (hk : (dget ks vs ("tpc_abort" : Str)).getD (.int 0) = .int 0)
    (h : ∀ σ', σ' log = some (.list (rows ++ [rowV "tpc_abort" who])) → σ' p = some (pmO who key (.dct (ks.map V.str) vs) log kept kept .none) → (∀ n, n ≠ log → n ≠ p → σ' n = σ n) → Q .none σ') : PCc O c (.st (.ref f_PlainManager_tpc_abort.addr)) [.ref p, tx] [] [] ρ σ Q X := by
  have hpl : p ≠ log := fun e => by rw [e, hl] at hp; cases hp
  refine PCc.goP (e := f_PlainManager_tpc_abort) (bv := [.ref p, tx]) S.ok (F_PlainManager_tpc_abort S) (by omega) (Nat.le_of_ble_eq_true rfl) (Nat.le_of_ble_eq_true rfl) (Nat.le_of_ble_eq_true rfl) rfl ?_
  repeat kpc_signs
  refine PCc.pc (step_ok S (by show 1 ≤ c.D - 1; omega) (ks := ks) (vs := vs) (by kpt_eq) hw (by kpt_eq) hz hn hk ?_)
  repeat kpc_signs
  exact h _ (by kpt_eq) (by kpt_eq) fun n n1 n2 => by kpt_eq
theorem pm_key (S : StL O) (hD : 1 ≤ c.D) (hp : σ p = some (pmO who key (.dct (ks.map V.str) vs) log kept value ready)) (hk : key.hands = true) (h : Q key σ) : PCc O c (.st (.ref f_PlainManager_sortKey.addr)) [.ref p] [] [] ρ σ Q X := by
  refine PCc.goP (e := f_PlainManager_sortKey) (bv := [.ref p]) S.ok (F_PlainManager_sortKey S) (by omega) (Nat.le_of_ble_eq_true rfl) (Nat.le_of_ble_eq_true rfl) (Nat.le_of_ble_eq_true rfl) rfl ?_
  repeat kpc_signs
  exact h
theorem keep_meth {e : FnE} (F : FnOk O N e) {v : V N} : KeepOk O (.meth (.st (.ref e.addr)) v) := let ⟨o, fd, h1, h2, _⟩ := F.st.at'; ⟨o, fd, h1, h2⟩
theorem rm_key_ok (S : StL O) (hD : 2 ≤ c.D) (hp : σ p = some (pmO who key (.dct (ks.map V.str) vs) log kept value ready)) (hk : key.hands = true) (h : Q key σ) : PCc O c (.st g_rm_key) [.ref p] [] [] ρ σ Q X := by
  refine PCc.goP (e := f_rm_key) (bv := [.ref p]) S.ok (F_rm_key S) (by omega) (Nat.le_of_ble_eq_true rfl) (Nat.le_of_ble_eq_true rfl) (Nat.le_of_ble_eq_true rfl) rfl ?_
  repeat kpc_signs
  refine PC.getattrM (f := f_PlainManager_sortKey.addr) S.ok (cls_Manager S) hp (by km_fact) (by decide +kernel) (by decide +kernel) (by km_fact) (by km_fact) (by km_fact) (by km_fact) (by rfl) ?_
  repeat kpc_signs
  refine PCc.pc (PCc.meth ?_ (pm_key S (by show 1 ≤ c.D - 1; omega) hp hk ?_))
  · exact keep_meth (F_PlainManager_sortKey (N := N) S)
  repeat kpc_signs
  exact h
theorem pm_init (S : StL O) (hD : 1 ≤ c.D) {plan : V N} (hp : σ p = some (.inst C_Manager [] [])) (h : ∀ σ', σ' p = some (pmO who key plan log (.int 0) (.int 0) .none) → (∀ n, n ≠ p → σ' n = σ n) → Q .none σ') : PCc O c (.st (.ref f_PlainManager___init__.addr)) [.ref p, who, key, plan, .ref log] [] [] ρ σ Q X := by
  refine PCc.goP (e := f_PlainManager___init__) (bv := [.ref p, who, key, plan, .ref log, .none]) S.ok (F_PlainManager___init__ S) (by omega) (Nat.le_of_ble_eq_true rfl) (Nat.le_of_ble_eq_true rfl) (Nat.le_of_ble_eq_true rfl) rfl ?_
  repeat kfm_signs
  exact h _ (by kpt_eq) fun n n1 => by kpt_eq
theorem pm_make (S : StL O) (hD : 2 ≤ c.D) {plan : V N} (hp : σ p = Option.none) (h : ∀ σ', σ' p = some (pmO who key plan log (.int 0) (.int 0) .none) → (∀ n, n ≠ p → σ' n = σ n) → Q (.ref p) σ') : PCc O c (.st g_Manager) [who, key, plan, .ref log] [] [] ρ σ Q X := by
  refine PCc.make (f := f_PlainManager___init__.addr) (D' := c.D - 1) S.ok (by kpt_hd) hp (by omega) ?_
  refine pm_init S (by show 1 ≤ c.D - 1; omega) Sto.set_self fun σ' g0 g1 => ⟨rfl, h σ' g0 fun n n1 => ?_⟩
  rw [g1 n n1, Sto.set_ne n1]
end
section
variable {N : Type} {O : Om} {c : Cx N} {ρ : Loc N} {σ : Sto N} {Q X : V N → Sto N → Prop}
variable {m w d t res bc ac ba aa : N} {st syn man ad vo ex ft : V N}
theorem tm_truth (S : StL O) {n : N} {vs : List (V N)} {ns : List Str} {Q : Bool → Sto N → Prop} (h1 : σ n = some (.inst C_TransactionManager ns vs)) (h : Q true σ) : P1B O c truthy (.ref n) ρ σ Q X := P1B.inst S.ok h1 (by km_fact) (by km_fact) h
theorem tm_get (S : StL O) (hD : 1 ≤ c.D) (hm : σ m = some (tmO (.ref t) w)) (h : Q (.ref t) σ) : PCc O c (.st (.ref f_TransactionManager_get.addr)) [.ref m] [] [] ρ σ Q X := by
  refine PCc.goP (e := f_TransactionManager_get) (bv := [.ref m]) S.ok (F_TransactionManager_get S) hD (Nat.le_of_ble_eq_true rfl) (Nat.le_of_ble_eq_true rfl) (Nat.le_of_ble_eq_true rfl) rfl ?_
  repeat kpc_signs
  exact h
theorem tm_get_new (S : StL O) (hD : 3 ≤ c.D) (hm : σ m = some (tmO .none w)) (ht : σ t = Option.none) (h1 : σ res = Option.none) (h2 : σ bc = Option.none) (h3 : σ ac = Option.none) (h4 : σ ba = Option.none) (h5 : σ aa = Option.none) (hdd : [t, res, bc, ac, ba, aa].Nodup)
    (h : ∀ σ', σ' m = some (tmO (.ref t) w) → σ' t = some (txnO (.st s_ACTIVE) (.ref w) (.ref m) (.dct [] []) (.lst []) (.dct [] []) .none res bc ac ba aa) → (∀ n, n ∉ [m, t, res, bc, ac, ba, aa] → σ' n = σ n) → Q (.ref t) σ') : PCc O c (.st (.ref f_TransactionManager_get.addr)) [.ref m] [] [] ρ σ Q X := by
  refine PCc.goP (e := f_TransactionManager_get) (bv := [.ref m]) S.ok (F_TransactionManager_get S) (by omega) (Nat.le_of_ble_eq_true rfl) (Nat.le_of_ble_eq_true rfl) (Nat.le_of_ble_eq_true rfl) rfl ?_
  repeat kpc_signs
  refine PCc.pc (txn_make S (t := t) (res := res) (bc := bc) (ac := ac) (ba := ba) (aa := aa) (by show 2 ≤ c.D - 1; omega) ht h1 h2 h3 h4 h5 hdd fun σ' g0 g1 g2 g3 g4 g5 g6 => ?_)
  have nms : m ∉ [t, res, bc, ac, ba, aa] := fun hmem => by
    simp only [List.mem_cons, List.not_mem_nil, or_false] at hmem
    rcases hmem with rfl | rfl | rfl | rfl | rfl | rfl <;> simp_all
  have gm := (g6 m nms).trans hm
  simp only [List.mem_cons, not_or, List.not_mem_nil, not_false_eq_true, and_true] at nms
  obtain ⟨m1, m2, m3, m4, m5, m6⟩ := nms
  repeat kpc_signs
  refine h _ (by kpt_eq) (by kpt_eq) fun n hn => ?_
  simp only [List.mem_cons, not_or] at hn
  rw [Sto.set_ne hn.1]
  exact g6 n (by simp only [List.mem_cons, not_or]; exact hn.2)
theorem tm_free (S : StL O) (hD : 1 ≤ c.D) (hm : σ m = some (tmO (.ref t) w)) {C : Addr} {ns : List Str} {vs : List (V N)} (ht : σ t = some (.inst C ns vs)) (h : Q .none (σ.set m (tmO .none w))) : PCc O c (.st (.ref f_TransactionManager_free.addr)) [.ref m, .ref t] [] [] ρ σ Q X := by
  refine PCc.goP (e := f_TransactionManager_free) (bv := [.ref m, .ref t]) S.ok (F_TransactionManager_free S) hD (Nat.le_of_ble_eq_true rfl) (Nat.le_of_ble_eq_true rfl) (Nat.le_of_ble_eq_true rfl) rfl ?_
  repeat kpc_signs
  refine P2.isRef (r := false) ht ht (.inr ⟨rfl, by simp⟩) ?_
  repeat kpc_signs
  exact h
theorem txn_doom (S : StL O) (hD : 1 ≤ c.D) (ht : σ t = some (txnO (.st s_ACTIVE) syn man ad vo ex ft res bc ac ba aa)) (h : Q .none (σ.set t (txnO (.st s_DOOMED) syn man ad vo ex ft res bc ac ba aa))) : PCc O c (.st (.ref f_Transaction_doom.addr)) [.ref t] [] [] ρ σ Q X := by
  refine PCc.goP (e := f_Transaction_doom) (bv := [.ref t]) S.ok (F_Transaction_doom S) hD (Nat.le_of_ble_eq_true rfl) (Nat.le_of_ble_eq_true rfl) (Nat.le_of_ble_eq_true rfl) rfl ?_
  repeat kpc_signs
  exact h
theorem txn_join (S : StL O) (hD : 1 ≤ c.D) {p : V N} {rs : List (V N)} (ht : σ t = some (txnO (.st s_ACTIVE) syn man ad vo ex ft res bc ac ba aa)) (hr : σ res = some (.list rs)) (hz : rs.length < 1000000) (h : Q .none (σ.set res (.list (rs ++ [p])))) : PCc O c (.st (.ref f_Transaction_join.addr)) [.ref t, p] [] [] ρ σ Q X := by
  have hne : t ≠ res := fun e => by rw [e, hr] at ht; cases ht
  refine PCc.goP (e := f_Transaction_join) (bv := [.ref t, p]) S.ok (F_Transaction_join S) hD (Nat.le_of_ble_eq_true rfl) (Nat.le_of_ble_eq_true rfl) (Nat.le_of_ble_eq_true rfl) rfl ?_
  repeat kpc_signs
  refine PM.append hr ?_
  repeat kpc_signs
  refine PC.append hr hz ?_
  repeat kpc_signs
  exact h
theorem txn_addHook (S : StL O) (hD : 1 ≤ c.D) {hk : V N} {as rs : List (V N)} (ht : σ t = some (txnO st syn man ad vo ex ft res bc ac ba aa)) (hr : σ bc = some (.list rs)) (hz : rs.length < 1000000) (h : Q .none (σ.set bc (.list (rs ++ [.tup [hk, .tup as, .dct [] []]])))) : PCc O c (.st (.ref f_Transaction_addBeforeCommitHook.addr)) [.ref t, hk, .tup as] [] [] ρ σ Q X := by
  refine PCc.goP (e := f_Transaction_addBeforeCommitHook) (bv := [.ref t, hk, .tup as, .none]) S.ok (F_Transaction_addBeforeCommitHook S) hD (Nat.le_of_ble_eq_true rfl) (Nat.le_of_ble_eq_true rfl) (Nat.le_of_ble_eq_true rfl) rfl ?_
  repeat kpc_signs
  refine PM.append hr ?_
  repeat kpc_signs
  refine PC.tuple ?_
  repeat kpc_signs
  refine PC.append hr hz ?_
  repeat kpc_signs
  exact h
theorem txn_free_manager (S : StL O) (hD : 2 ≤ c.D) (ht : σ t = some (txnO st syn (.ref m) ad vo ex ft res bc ac ba aa)) (hm : σ m = some (tmO (.ref t) w))
    (h : ∀ σ', σ' m = some (tmO .none w) → σ' t = some (txnO st syn .none ad vo ex ft res bc ac ba aa) → (∀ n, n ≠ m → n ≠ t → σ' n = σ n) → Q .none σ') : PCc O c (.st (.ref f_Transaction__free_manager.addr)) [.ref t] [] [] ρ σ Q X := by
  have hne : t ≠ m := fun e => by rw [e, hm] at ht; cases ht
  refine PCc.goP (e := f_Transaction__free_manager) (bv := [.ref t]) S.ok (F_Transaction__free_manager S) (by omega) (Nat.le_of_ble_eq_true rfl) (Nat.le_of_ble_eq_true rfl) (Nat.le_of_ble_eq_true rfl) rfl ?_
  repeat kpc_signs
  refine AS.tryF (by simp) ?_
  repeat kpc_signs
  refine tm_truth S hm ?_
  repeat kpc_signs
  refine PCc.pc (tm_free S (by show 1 ≤ c.D - 1; omega) hm ht ?_)
  repeat kpc_signs
  exact h _ (by kpt_eq) (by kpt_eq) fun n n1 n2 => by kpt_eq
end
section
variable {N : Type} {O : Om} {c : Cx N} {ρ : Loc N} {σ : Sto N} {Q X : V N → Sto N → Prop}
variable {m w d t res bc ac ba aa : N} {st syn man ad vo ex ft : V N}
theorem txn_free_manager0 (S : StL O) (hD : 1 ≤ c.D) (ht : σ t = some (txnO st syn .none ad vo ex ft res bc ac ba aa))
    (h : ∀ σ', σ' t = some (txnO st syn .none ad vo ex ft res bc ac ba aa) → (∀ n, n ≠ t → σ' n = σ n) → Q .none σ') : PCc O c (.st (.ref f_Transaction__free_manager.addr)) [.ref t] [] [] ρ σ Q X := by
  refine PCc.goP (e := f_Transaction__free_manager) (bv := [.ref t]) S.ok (F_Transaction__free_manager S) (by omega) (Nat.le_of_ble_eq_true rfl) (Nat.le_of_ble_eq_true rfl) (Nat.le_of_ble_eq_true rfl) rfl ?_
  repeat kpc_signs
  refine AS.tryF (by simp) ?_
  repeat kpc_signs
  exact h _ (by kpt_eq) fun n n1 => by kpt_eq
/-- what a transaction's lists are, apart -/
structure TApart (t res bc ac ba aa : N) : Prop where
  d : [t, res, bc, ac, ba, aa].Nodup
theorem TApart.all (h : TApart t res bc ac ba aa) : t ≠ res ∧ t ≠ bc ∧ t ≠ ac ∧ t ≠ ba ∧ t ≠ aa ∧ res ≠ bc ∧ res ≠ ac ∧ res ≠ ba ∧ res ≠ aa ∧ bc ≠ ac ∧ bc ≠ ba ∧ bc ≠ aa ∧ ac ≠ ba ∧ ac ≠ aa ∧ ba ≠ aa := by
  have hd := h.d
  simp only [List.nodup_cons, List.mem_cons, not_or, List.not_mem_nil, not_false_eq_true, and_true, List.nodup_nil] at hd
  obtain ⟨⟨a1, a2, a3, a4, a5⟩, ⟨b1, b2, b3, b4⟩, ⟨c1, c2, c3⟩, ⟨d1, d2⟩, e1⟩ := hd
  exact ⟨a1, a2, a3, a4, a5, b1, b2, b3, b4, c1, c2, c3, d1, d2, e1⟩
theorem txn_free_body (S : StL O) {c' : Cx N} {ρ' : Loc N} (hρ : ρ' 0 = some (.ref t)) (hh : c'.hd = .no) (A : TApart t res bc ac ba aa) (ht : σ t = some (txnO st syn .none ad vo ex ft res bc ac ba aa)) {l1 l2 l3 l4 l5 : List (V N)} (h1 : σ res = some (.list l1)) (h2 : σ bc = some (.list l2)) (h3 : σ ac = some (.list l3)) (h4 : σ ba = some (.list l4)) (h5 : σ aa = some (.list l5)) (z1 : l1.length < 1000000) (z2 : l2.length < 1000000) (z3 : l3.length < 1000000) (z4 : l4.length < 1000000) (z5 : l5.length < 1000000) {Q : AF N → Loc N → Sto N → Prop} {X : V N → Loc N → Sto N → Prop}
    (h : ∀ σ', σ' t = some (txnO st (.st g__NoSynchronizers) .none .none .none .none ft res bc ac ba aa) → σ' res = some (.list []) → σ' bc = some (.list []) → σ' ac = some (.list []) → σ' ba = some (.list []) → σ' aa = some (.list []) → (∀ n, n ∉ [t, res, bc, ac, ba, aa] → σ' n = σ n) → Q .next ρ' σ') :
    AX O c' (m_Transaction__free.drop 1) ρ' σ Q X := by
  obtain ⟨a1, a2, a3, a4, a5, b1, b2, b3, b4, c1, c2, c3, d1, d2, e1⟩ := A.all
  simp only [m_Transaction__free, List.drop_succ_cons, List.drop_zero]
  refine AX.cons (AS.ite (AT.val rfl (AE.call S.ok (AE.st S.ok (AEl.cons (AE.loc hρ ?_))))))
  repeat kpc_signs
  refine PC.hasattrNo S.ok (cls_Transaction S) hh ht (by km_fact) (by decide +kernel) (by km_fact) (by km_fact) (by decide +kernel) (by kernel_rfl) ?_
  repeat kpc_signs
  refine AS.delAll (AE.attr (AE.loc hρ ?_))
  repeat kpc_signs
  refine ⟨res, l1, rfl, by kpt_eq, z1, ?_⟩
  repeat kpc_signs
  refine AS.delAll (AE.attr (AE.loc hρ ?_))
  repeat kpc_signs
  refine ⟨bc, l2, rfl, by kpt_eq, z2, ?_⟩
  repeat kpc_signs
  refine AS.delAll (AE.attr (AE.loc hρ ?_))
  repeat kpc_signs
  refine ⟨ac, l3, rfl, by kpt_eq, z3, ?_⟩
  repeat kpc_signs
  refine AS.delAll (AE.attr (AE.loc hρ ?_))
  repeat kpc_signs
  refine ⟨ba, l4, rfl, by kpt_eq, z4, ?_⟩
  repeat kpc_signs
  refine AS.delAll (AE.attr (AE.loc hρ ?_))
  repeat kpc_signs
  refine ⟨aa, l5, rfl, by kpt_eq, z5, ?_⟩
  repeat kpc_signs
  refine AE.loc hρ ?_
  repeat kpc_signs
  refine AE.loc hρ ?_
  repeat kpc_signs
  refine AE.loc hρ ?_
  repeat kpc_signs
  refine AE.loc hρ ?_
  repeat kpc_signs
  refine h _ (by kpt_eq) (by kpt_eq) (by kpt_eq) (by kpt_eq) (by kpt_eq) (by kpt_eq) fun n hn => ?_
  simp only [List.mem_cons, not_or, List.not_mem_nil, not_false_eq_true, and_true] at hn
  obtain ⟨n1, n2, n3, n4, n5, n6⟩ := hn
  kpt_eq
end
section
variable {N : Type} {O : Om} {c : Cx N} {ρ : Loc N} {σ : Sto N} {Q X : V N → Sto N → Prop}
variable {m w d t res bc ac ba aa : N} {st syn man ad vo ex ft : V N}
theorem txn_free0 (S : StL O) (hD : 2 ≤ c.D) (hh : c.hd = .no) (A : TApart t res bc ac ba aa) (ht : σ t = some (txnO st syn .none ad vo ex ft res bc ac ba aa)) {l1 l2 l3 l4 l5 : List (V N)} (h1 : σ res = some (.list l1)) (h2 : σ bc = some (.list l2)) (h3 : σ ac = some (.list l3)) (h4 : σ ba = some (.list l4)) (h5 : σ aa = some (.list l5)) (z1 : l1.length < 1000000) (z2 : l2.length < 1000000) (z3 : l3.length < 1000000) (z4 : l4.length < 1000000) (z5 : l5.length < 1000000)
    (h : ∀ σ', σ' t = some (txnO st (.st g__NoSynchronizers) .none .none .none .none ft res bc ac ba aa) → σ' res = some (.list []) → σ' bc = some (.list []) → σ' ac = some (.list []) → σ' ba = some (.list []) → σ' aa = some (.list []) → (∀ n, n ∉ [t, res, bc, ac, ba, aa] → σ' n = σ n) → Q .none σ') :
    PCc O c (.st (.ref f_Transaction__free.addr)) [.ref t] [] [] ρ σ Q X := by
  obtain ⟨a1, a2, a3, a4, a5, -⟩ := A.all
  refine PCc.goP (e := f_Transaction__free) (bv := [.ref t]) S.ok (F_Transaction__free S) (by omega) (Nat.le_of_ble_eq_true rfl) (Nat.le_of_ble_eq_true rfl) (Nat.le_of_ble_eq_true rfl) rfl ?_
  iterate 6 kpc_signs
  refine PCc.pc (txn_free_manager0 S (by show 1 ≤ c.D - 1; omega) ht fun σ₁ g0 g1 => ?_)
  refine txn_free_body S (by rfl) (by exact hh) A g0 (by rw [g1 _ (Ne.symm a1)]; exact h1) (by rw [g1 _ (Ne.symm a2)]; exact h2) (by rw [g1 _ (Ne.symm a3)]; exact h3) (by rw [g1 _ (Ne.symm a4)]; exact h4) (by rw [g1 _ (Ne.symm a5)]; exact h5) z1 z2 z3 z4 z5 fun σ' q0 q1 q2 q3 q4 q5 q6 => ?_
  exact h σ' q0 q1 q2 q3 q4 q5 fun n hn => by rw [q6 n hn, g1 n fun e => hn (by rw [e]; simp)]
theorem txn_free1 (S : StL O) (hD : 3 ≤ c.D) (hh : c.hd = .no) (A : TApart t res bc ac ba aa) (hm : σ m = some (tmO (.ref t) w)) (ht : σ t = some (txnO st syn (.ref m) ad vo ex ft res bc ac ba aa)) {l1 l2 l3 l4 l5 : List (V N)} (h1 : σ res = some (.list l1)) (h2 : σ bc = some (.list l2)) (h3 : σ ac = some (.list l3)) (h4 : σ ba = some (.list l4)) (h5 : σ aa = some (.list l5)) (z1 : l1.length < 1000000) (z2 : l2.length < 1000000) (z3 : l3.length < 1000000) (z4 : l4.length < 1000000) (z5 : l5.length < 1000000)
    (h : ∀ σ', σ' m = some (tmO .none w) → σ' t = some (txnO st (.st g__NoSynchronizers) .none .none .none .none ft res bc ac ba aa) → σ' res = some (.list []) → σ' bc = some (.list []) → σ' ac = some (.list []) → σ' ba = some (.list []) → σ' aa = some (.list []) → (∀ n, n ∉ [m, t, res, bc, ac, ba, aa] → σ' n = σ n) → Q .none σ') :
    PCc O c (.st (.ref f_Transaction__free.addr)) [.ref t] [] [] ρ σ Q X := by
  obtain ⟨a1, a2, a3, a4, a5, -⟩ := A.all
  have nl : ∀ {n l}, σ n = some (.list l) → n ≠ m := fun {n l} hn e => by rw [e, hm] at hn; cases hn
  have hmt : m ≠ t := fun e => by rw [e, ht] at hm; cases hm
  refine PCc.goP (e := f_Transaction__free) (bv := [.ref t]) S.ok (F_Transaction__free S) (by omega) (Nat.le_of_ble_eq_true rfl) (Nat.le_of_ble_eq_true rfl) (Nat.le_of_ble_eq_true rfl) rfl ?_
  iterate 6 kpc_signs
  refine PCc.pc (txn_free_manager S (by show 2 ≤ c.D - 1; omega) ht hm fun σ₁ gm g0 g1 => ?_)
  refine txn_free_body S (by rfl) (by exact hh) A g0 (by rw [g1 _ (nl h1) (Ne.symm a1)]; exact h1) (by rw [g1 _ (nl h2) (Ne.symm a2)]; exact h2) (by rw [g1 _ (nl h3) (Ne.symm a3)]; exact h3) (by rw [g1 _ (nl h4) (Ne.symm a4)]; exact h4) (by rw [g1 _ (nl h5) (Ne.symm a5)]; exact h5) z1 z2 z3 z4 z5 fun σ' q0 q1 q2 q3 q4 q5 q6 => ?_
  refine h σ' ?_ q0 q1 q2 q3 q4 q5 fun n hn => ?_
  · rw [q6 m ?_]
    · exact gm
    · simp only [List.mem_cons, not_or, List.not_mem_nil, not_false_eq_true, and_true]
      exact ⟨hmt, Ne.symm (nl h1), Ne.symm (nl h2), Ne.symm (nl h3), Ne.symm (nl h4), Ne.symm (nl h5)⟩
  · simp only [List.mem_cons, not_or] at hn
    rw [q6 n (by simp only [List.mem_cons, not_or]; exact hn.2), g1 n hn.1 hn.2.1]
/-- hooks: none -/
theorem call_hooks0 (S : StL O) (hD : 1 ≤ c.D) (h0 : σ bc = some (.list [])) (h : Q .none σ) : PCc O c (.st (.ref f_Transaction__call_hooks.addr)) [.ref t, .ref bc] [] [] ρ σ Q X := by
  refine PCc.goP (e := f_Transaction__call_hooks) (bv := [.ref t, .ref bc, .bool true, .bool false, .tup []]) S.ok (F_Transaction__call_hooks S) (by omega) (Nat.le_of_ble_eq_true rfl) (Nat.le_of_ble_eq_true rfl) (Nat.le_of_ble_eq_true rfl) rfl ?_
  repeat kpc_signs
  exact h
/-- .. called with names, too -/
theorem call_hooks0k (S : StL O) (hD : 1 ≤ c.D) {kn : List Str} {us bv : List (V N)} (hb : bindOk f_Transaction__call_hooks.ns f_Transaction__call_hooks.ds.length [.ref t, .ref bc] (kn.zip us) = true) (hbv : bindP f_Transaction__call_hooks.ns (f_Transaction__call_hooks.ds.map DV.v) [.ref t, .ref bc] (kn.zip us) = f_Transaction__call_hooks.ns.zip (.ref t :: .ref bc :: bv)) (hl : bv.length = 3) (h0 : σ bc = some (.list [])) (h : Q .none σ) : PCc O c (.st (.ref f_Transaction__call_hooks.addr)) [.ref t, .ref bc] kn us ρ σ Q X := by
  refine PCc.go (e := f_Transaction__call_hooks) (bv := .ref t :: .ref bc :: bv) S.ok (F_Transaction__call_hooks S) (by omega) hb hbv (by show bv.length + 2 = _; rw [hl]; rfl) ?_
  repeat kpc_signs
  exact h
theorem after_commit0 (S : StL O) (hD : 2 ≤ c.D) {b : Bool} (ht : σ t = some (txnO st syn man ad vo ex ft res bc ac ba aa)) (h0 : σ ac = some (.list [])) (h : Q .none σ) : PCc O c (.st (.ref f_Transaction__callAfterCommitHooks.addr)) [.ref t] ["status"] [.bool b] ρ σ Q X := by
  refine PCc.go (e := f_Transaction__callAfterCommitHooks) (bv := [.ref t, .bool b]) S.ok (F_Transaction__callAfterCommitHooks S) (by omega) (by kernel_rfl) (by kernel_rfl) rfl ?_
  repeat kpc_signs
  refine PCc.pc (call_hooks0k S (by show 1 ≤ c.D - 1; omega) (bv := [.bool false, .bool true, .tup [.bool b]]) (by kernel_rfl) (by kernel_rfl) rfl h0 ?_)
  repeat kpc_signs
  exact h
theorem before_abort0 (S : StL O) (hD : 2 ≤ c.D) (ht : σ t = some (txnO st syn man ad vo ex ft res bc ac ba aa)) (h0 : σ ba = some (.list [])) (h : Q .none σ) : PCc O c (.st (.ref f_Transaction__callBeforeAbortHooks.addr)) [.ref t] [] [] ρ σ Q X := by
  refine PCc.goP (e := f_Transaction__callBeforeAbortHooks) (bv := [.ref t]) S.ok (F_Transaction__callBeforeAbortHooks S) (by omega) (Nat.le_of_ble_eq_true rfl) (Nat.le_of_ble_eq_true rfl) (Nat.le_of_ble_eq_true rfl) rfl ?_
  repeat kpc_signs
  refine PCc.pc (call_hooks0k S (by show 1 ≤ c.D - 1; omega) (bv := [.bool false, .bool false, .tup []]) (by kernel_rfl) (by kernel_rfl) rfl h0 ?_)
  repeat kpc_signs
  exact h
theorem after_abort0 (S : StL O) (hD : 2 ≤ c.D) (ht : σ t = some (txnO st syn man ad vo ex ft res bc ac ba aa)) (h0 : σ aa = some (.list [])) (h : Q .none σ) : PCc O c (.st (.ref f_Transaction__callAfterAbortHooks.addr)) [.ref t] [] [] ρ σ Q X := by
  refine PCc.goP (e := f_Transaction__callAfterAbortHooks) (bv := [.ref t]) S.ok (F_Transaction__callAfterAbortHooks S) (by omega) (Nat.le_of_ble_eq_true rfl) (Nat.le_of_ble_eq_true rfl) (Nat.le_of_ble_eq_true rfl) rfl ?_
  repeat kpc_signs
  refine PCc.pc (call_hooks0k S (by show 1 ≤ c.D - 1; omega) (bv := [.bool true, .bool true, .tup []]) (by kernel_rfl) (by kernel_rfl) rfl h0 ?_)
  repeat kpc_signs
  exact h
end
section
variable {N : Type} {O : Om} {c : Cx N} {ρ : Loc N} {σ : Sto N}
theorem AX.mono {ms : List MS} {Q Q' : AF N → Loc N → Sto N → Prop} {X X' : V N → Loc N → Sto N → Prop} (h : AX O c ms ρ σ Q X) (hq : ∀ af ρ σ, Q af ρ σ → Q' af ρ σ) (hx : ∀ v ρ σ, X v ρ σ → X' v ρ σ) : AX O c ms ρ σ Q' X' := fun A env T Φ s e he hA =>
  wpAny_mono (h A env T Φ s e he hA) (fun f s' hp => hp.up (TM.le_refl _) rfl rfl hq) fun y s' hp => hp.up (TM.le_refl _) rfl rfl hx
theorem ATg.mono {t : MT} {v : V N} {Q Q' : Loc N → Sto N → Prop} {X : V N → Loc N → Sto N → Prop} (h : ATg O c t v ρ σ Q X) (hq : ∀ ρ σ, Q ρ σ → Q' ρ σ) : ATg O c t v ρ σ Q' X := fun A env T Φ s e a he hA hv =>
  wpAny_mono (h A env T Φ s e a he hA hv) (fun _ s' hp => hp.up (TM.le_refl _) rfl rfl fun _ ρ σ q => hq ρ σ q) fun y s' hp => hp
theorem ForL.ind {t : MT} {a : List MS} {Q : AF N → Loc N → Sto N → Prop} {X : V N → Loc N → Sto N → Prop} {K : Sto N → Prop} (I : List (V N) → Loc N → Sto N → Prop) (nil : ∀ ρ σ, I [] ρ σ → Q .next ρ σ)
    (cons : ∀ v r ρ σ, I (v :: r) ρ σ → ATg O c t v ρ σ (fun ρ σ => AX O c a ρ σ (fun af ρ σ => match af with | .next => K σ ∧ I r ρ σ | .cont => K σ ∧ I r ρ σ | .brk => Q .next ρ σ | .ret v => Q (.ret v) ρ σ) X) X) :
    ∀ (vs : List (V N)) (ρ : Loc N) (σ : Sto N), I vs ρ σ → ForL O c t a Q X K vs ρ σ
  | [], ρ, σ, h => nil ρ σ h
  | v :: r, ρ, σ, h => (cons v r ρ σ h).mono fun ρ σ h2 => h2.mono (fun af ρ σ q => by
      cases af with
      | next => exact ⟨q.1, ForL.ind I nil cons r ρ σ q.2⟩
      | cont => exact ⟨q.1, ForL.ind I nil cons r ρ σ q.2⟩
      | brk => exact q
      | ret v => exact q) fun _ _ _ x => x
end
/-- a data manager's record -/
structure PR (N : Type) where
  who : V N
  key : V N
  ks : List Str
  vs : List (V N)
  kept : V N
  value : V N
  ready : V N
abbrev PR.obj {N : Type} (log : N) (r : PR N) : AO N := pmO r.who r.key (.dct (r.ks.map V.str) r.vs) log r.kept r.value r.ready
def PR.says {N : Type} (r : PR N) (what : Str) (n : Int) : Prop := (dget r.ks r.vs what).getD (.int 0) = .int n
structure PR.Ok {N : Type} (r : PR N) : Prop where
  who : r.who.hands = true
  key : r.key.hands = true
  kept : r.kept.hands = true
  value : r.value.hands = true
  nd : r.ks.Nodup
  says : ∀ what, what ≠ ("tpc_vote" : Str) → r.says what 0
abbrev PR.back {N : Type} (r : PR N) : PR N := { r with value := r.kept, ready := .none }
/-- the managers ps have the records R -/
def Ps {N : Type} (σ : Sto N) (log : N) (ps : List N) (R : N → PR N) : Prop := ∀ p ∈ ps, σ p = some ((R p).obj log) ∧ (R p).Ok
section
variable {N : Type} {O : Om} {c : Cx N} {ρ : Loc N} {σ : Sto N} {Q X : V N → Sto N → Prop}
theorem Ps.ne {log : N} {ps : List N} {R : N → PR N} {rows : List (V N)} (h : Ps σ log ps R) (hl : σ log = some (.list rows)) {p : N} (hp : p ∈ ps) : p ≠ log := fun e => by rw [e, ] at hp; rw [(h log hp).1] at hl; cases hl
theorem Ps.not_list {log n : N} {ps : List N} {R : N → PR N} {rows : List (V N)} (h : Ps σ log ps R) (hl : σ n = some (.list rows)) : n ∉ ps := fun hp => by rw [(h n hp).1] at hl; cases hl
end
section
variable {N : Type} {O : Om} {c : Cx N} {ρ : Loc N} {σ : Sto N} {Q X : V N → Sto N → Prop}
variable {m w d t res bc ac ba aa log : N} {st syn man ad vo ex ft : V N}
theorem PR.Ok.back {r : PR N} (h : r.Ok) : r.back.Ok := ⟨h.who, h.key, h.kept, h.kept, h.nd, h.says⟩
/-- how far a walk over the managers has come: those behind are as f tells, one row each -/
structure Walked (σ₀ σ : Sto N) (log : N) (rows : List (V N)) (what : Str) (ps done todo : List N) (R : N → PR N) (f : PR N → PR N) : Prop where
  split : ps = done ++ todo
  lg : σ log = some (.list (rows ++ done.map fun p => rowV what (R p).who))
  don : ∀ p ∈ done, σ p = some ((f (R p)).obj log)
  tod : ∀ p ∈ todo, σ p = some ((R p).obj log)
  off : ∀ n, n ≠ log → n ∉ ps → σ n = σ₀ n
theorem Walked.start {rows : List (V N)} {what : Str} {ps : List N} {R : N → PR N} {f : PR N → PR N} (hl : σ log = some (.list rows)) (hp : Ps σ log ps R) : Walked σ σ log rows what ps [] ps R f :=
  ⟨rfl, by simpa using hl, fun _ h => by (cases h), fun p h => (hp p h).1, fun _ _ _ => rfl⟩
theorem Walked.step {σ₀ σ' : Sto N} {rows : List (V N)} {what : Str} {ps done todo : List N} {p : N} {R : N → PR N} {f : PR N → PR N} (h : Walked σ₀ σ log rows what ps done (p :: todo) R f) (hn : ps.Nodup) (hlog : log ∉ ps) (h1 : σ' log = some (.list ((rows ++ done.map fun p => rowV what (R p).who) ++ [rowV what (R p).who]))) (h2 : σ' p = some ((f (R p)).obj log)) (h3 : ∀ n, n ≠ log → n ≠ p → σ' n = σ n) :
    Walked σ₀ σ' log rows what ps (done ++ [p]) todo R f := by
  have hs := h.split
  rw [hs, List.nodup_append] at hn
  obtain ⟨_, n2, n3⟩ := hn
  rw [List.nodup_cons] at n2
  have mem : ∀ x, x ∈ done ∨ x ∈ todo → x ≠ log ∧ x ≠ p := fun x hx => by
    refine ⟨fun e => hlog (by rw [← e, hs]; rcases hx with hx | hx <;> simp [hx]), fun e => ?_⟩
    subst e
    rcases hx with hx | hx
    · exact n3 x hx x (by simp) rfl
    · exact n2.1 hx
  refine ⟨by rw [hs]; simp, by rw [h1]; simp, fun x hx => ?_, fun x hx => ?_, fun n q1 q2 => ?_⟩
  · rcases List.mem_append.mp hx with hx | hx
    · rw [h3 x (mem x (.inl hx)).1 (mem x (.inl hx)).2]; exact h.don x hx
    · rw [List.mem_singleton.mp hx]; exact h2
  · rw [h3 x (mem x (.inr hx)).1 (mem x (.inr hx)).2]; exact h.tod x (.tail _ hx)
  · rw [h3 n q1 (fun e => q2 (by rw [e, hs]; simp))]; exact h.off n q1 q2
theorem txn_abort_ok (S : StL O) (hD : 4 ≤ c.D) (hh : c.hd = .no) (A : TApart t res bc ac ba aa) (ht : σ t = some (txnO st (.ref w) (.ref m) ad vo ex ft res bc ac ba aa)) (hm : σ m = some (tmO (.ref t) w)) (hw : σ w = some (wsO d)) (hdd : σ d = some (.list []))
    {ps : List N} {R : N → PR N} {rows l2 l3 : List (V N)} (hl : σ log = some (.list rows)) (hp : Ps σ log ps R) (hn : ps.Nodup) (h1 : σ res = some (.list (ps.map V.ref))) (h2 : σ bc = some (.list l2)) (h3 : σ ac = some (.list l3)) (h4 : σ ba = some (.list [])) (h5 : σ aa = some (.list [])) (z1 : ps.length < 1000) (z2 : l2.length < 1000000) (z3 : l3.length < 1000000) (z4 : rows.length < 900000) (hlr : log ∉ [res, bc, ac, ba, aa, d])
    (h : ∀ σ', σ' m = some (tmO .none w) → σ' t = some (txnO st (.st g__NoSynchronizers) .none .none .none .none ft res bc ac ba aa) → σ' res = some (.list []) → σ' bc = some (.list []) → σ' ac = some (.list []) → σ' ba = some (.list []) → σ' aa = some (.list []) → σ' log = some (.list (rows ++ ps.map fun p => rowV "abort" (R p).who)) → Ps σ' log ps (fun p => (R p).back) → (∀ n, n ∉ [m, t, res, bc, ac, ba, aa, log] → n ∉ ps → σ' n = σ n) → Q .none σ') :
    PCc O c (.st (.ref f_Transaction_abort.addr)) [.ref t] [] [] ρ σ Q X := by
  obtain ⟨a1, a2, a3, a4, a5, -⟩ := A.all
  have hlp : log ∉ ps := hp.not_list hl
  simp only [List.mem_cons, not_or, List.not_mem_nil, not_false_eq_true, and_true] at hlr
  obtain ⟨e1, e2, e3, e4, e5, e6⟩ := hlr
  have tlog : t ≠ log := fun e => by rw [e, hl] at ht; cases ht
  have mlog : m ≠ log := fun e => by rw [e, hl] at hm; cases hm
  have wlog : w ≠ log := fun e => by rw [e, hl] at hw; cases hw
  have tps : t ∉ ps := fun hx => by have := (hp t hx).1; rw [ht] at this; cases this
  have mps : m ∉ ps := fun hx => by have := (hp m hx).1; rw [hm] at this; cases this
  have wps : w ∉ ps := fun hx => by have := (hp w hx).1; rw [hw] at this; cases this
  refine PCc.goP (e := f_Transaction_abort) (bv := [.ref t]) S.ok (F_Transaction_abort S) (by omega) (Nat.le_of_ble_eq_true rfl) (Nat.le_of_ble_eq_true rfl) (Nat.le_of_ble_eq_true rfl) rfl ?_
  kpc_signs
  refine AS.tryF (by simp) ?_
  repeat kpc_signs
  refine PCc.pc (before_abort0 S (by show 2 ≤ c.D - 1; omega) ht h4 ?_)
  repeat kpc_signs
  refine AS.tryE (by simp) ?_
  repeat kpc_signs
  refine PCc.pc (ws_map S (by show 2 ≤ c.D - 1; omega) (by show c.hd.good = true; rw [hh]; rfl) hw hdd ?_)
  repeat kpc_signs
  refine AS.forL (by show c.hd.good = true; rw [hh]; rfl) ?_
  repeat kpc_signs
  refine ⟨ps.map V.ref, .inl rfl, items_ref h1, ?_⟩
  refine ForL.ind (fun rest ρ σ' => ρ 3 = some .none ∧ ∃ done todo, rest = todo.map V.ref ∧ Walked σ σ' log rows "abort" ps done todo R PR.back) (fun ρ σ' hI => ?_) (fun v r ρ σ' hI => ?_) _ _ _ ⟨rfl, [], ps, rfl, .start hl hp⟩
  · obtain ⟨r3, done, todo, hr, W⟩ := hI
    have htd : todo = [] := by simpa using hr.symm
    subst htd
    have hdone : done = ps := by rw [W.split]; simp
    subst hdone
    have kt : ∀ n, n ≠ log → n ∉ done → σ' n = σ n := W.off
    have nl : ∀ {n l}, σ n = some (.list l) → n ∉ done := fun {n l} hn => hp.not_list hn
    have gt := (kt t tlog tps).trans ht
    have gm := (kt m mlog mps).trans hm
    have gw := (kt w wlog wps).trans hw
    have gd := (kt d (Ne.symm e6) (nl hdd)).trans hdd
    have g1 := (kt res (Ne.symm e1) (nl h1)).trans h1
    have g2 := (kt bc (Ne.symm e2) (nl h2)).trans h2
    have g3 := (kt ac (Ne.symm e3) (nl h3)).trans h3
    have g4 := (kt ba (Ne.symm e4) (nl h4)).trans h4
    have g5 := (kt aa (Ne.symm e5) (nl h5)).trans h5
    repeat kpc_signs
    refine PCc.pc (after_abort0 S (by show 2 ≤ c.D - 1; omega) gt g5 ?_)
    repeat kpc_signs
    refine PCc.pc (txn_free_manager S (by show 2 ≤ c.D - 1; omega) gt gm fun σ₂ q1 q2 q3 => ?_)
    have ne_m : ∀ {n o}, σ' n = some o → n ≠ m → n ≠ t → σ₂ n = some o := fun {n o} hn x y => (q3 n x y).trans hn
    have hwm : w ≠ m := fun e => by rw [e, hm] at hw; cases hw
    have hwt : w ≠ t := fun e => by rw [e, ht] at hw; cases hw
    have lm : ∀ {n l}, σ n = some (.list l) → n ≠ m ∧ n ≠ t := fun {n l} hn => ⟨fun e => (by rw [e, hm] at hn; cases hn), fun e => (by rw [e, ht] at hn; cases hn)⟩
    have hw2 := ne_m gw hwm hwt
    have hd2 := ne_m gd (lm hdd).1 (lm hdd).2
    repeat kpc_signs
    refine PCc.pc (ws_map S (by show 2 ≤ c.D - 1; omega) (by show c.hd.good = true; rw [hh]; rfl) hw2 hd2 ?_)
    kpc_signs
    refine AS.ite (AT.cmp (AE.loc r3 ?_))
    repeat kpc_signs
    refine PCc.pc (txn_free0 S (by show 2 ≤ c.D - 1; omega) (by exact hh) A q2 (ne_m g1 (lm h1).1 (lm h1).2) (ne_m g2 (lm h2).1 (lm h2).2) (ne_m g3 (lm h3).1 (lm h3).2) (ne_m g4 (lm h4).1 (lm h4).2) (ne_m g5 (lm h5).1 (lm h5).2) (by rw [List.length_map]; omega) z2 z3 (by simp) (by simp) fun σ₃ s0 s1 s2 s3 s4 s5 s6 => ?_)
    repeat kpc_signs
    have nl6 : ∀ {n o}, σ₂ n = some o → n ∉ [t, res, bc, ac, ba, aa] → σ₃ n = some o := fun {n o} hn hx => (s6 n hx).trans hn
    have inst_not : ∀ {n : N} {C ns vs}, σ n = some (.inst C ns vs) → n ≠ t → n ∉ [t, res, bc, ac, ba, aa] := fun {n C ns vs} hn hnt hx => by
      simp only [List.mem_cons, List.not_mem_nil, or_false] at hx
      rcases hx with rfl | rfl | rfl | rfl | rfl | rfl
      · exact hnt rfl
      · rw [h1] at hn; cases hn
      · rw [h2] at hn; cases hn
      · rw [h3] at hn; cases hn
      · rw [h4] at hn; cases hn
      · rw [h5] at hn; cases hn
    have hlog6 : log ∉ [t, res, bc, ac, ba, aa] := by
      simp only [List.mem_cons, not_or, List.not_mem_nil, not_false_eq_true, and_true]
      exact ⟨Ne.symm tlog, e1, e2, e3, e4, e5⟩
    have hmt : m ≠ t := fun e => by rw [e, ht] at hm; cases hm
    refine h σ₃ (nl6 q1 (inst_not hm hmt)) s0 s1 s2 s3 s4 s5 (nl6 (ne_m W.lg (Ne.symm mlog) (Ne.symm tlog)) hlog6) (fun p hpp => ⟨?_, (hp p hpp).2.back⟩) fun n hn hnp => ?_
    · have pm : p ≠ m := fun e => mps (e ▸ hpp)
      have pt : p ≠ t := fun e => tps (e ▸ hpp)
      exact nl6 (ne_m (W.don p hpp) pm pt) (inst_not (hp p hpp).1 pt)
    · simp only [List.mem_cons, not_or, List.not_mem_nil, not_false_eq_true, and_true] at hn
      obtain ⟨x1, x2, x3, x4, x5, x6, x7, x8⟩ := hn
      rw [s6 n (by simp only [List.mem_cons, not_or, List.not_mem_nil, not_false_eq_true, and_true]; exact ⟨x2, x3, x4, x5, x6, x7⟩), q3 n x1 x2, kt n x8 hnp]
  · obtain ⟨r3, done, todo, hr, W⟩ := hI
    cases todo with
    | nil => simp at hr
    | cons p todo =>
      rw [List.map_cons, List.cons.injEq] at hr
      obtain ⟨rfl, rfl⟩ := hr
      have hpm : p ∈ ps := by rw [W.split]; simp
      have gp := W.tod p (.head _)
      have gl := W.lg
      have okp := (hp p hpm).2
      have hlen : (rows ++ done.map fun p => rowV "abort" (R p).who).length < 1000000 := by
        have : done.length ≤ ps.length := by rw [W.split]; simp
        rw [List.length_append, List.length_map]; omega
      kpc_signs
      refine AX.cons (AS.tryE (by simp) ?_)
      repeat kpc_signs
      refine PCc.pc (pm_abort S (by show 2 ≤ c.D - 1; omega) gp okp.who okp.kept gl hlen okp.nd (okp.says _ (by decide +kernel)) fun σ₂ q1 q2 q3 => ?_)
      repeat kpc_signs
      have W' := W.step hn hlp q1 q2 q3
      refine ⟨?_, r3, done ++ [p], todo, rfl, W'⟩
      exact items_ref (((W'.off res (Ne.symm e1) (hp.not_list h1))).trans h1)
end
abbrev PR.set {N : Type} (r : PR N) : PR N := { r with ready := .lst [r.value] }
abbrev PR.fin {N : Type} (r : PR N) : PR N := { r with kept := r.value, ready := .none }
section
variable {N : Type} {O : Om} {c : Cx N} {ρ : Loc N} {σ : Sto N} {Q X : V N → Sto N → Prop}
variable {m w d t res bc ac ba aa log srt : N} {st syn man ad vo ex ft : V N} {ps : List N} {R : N → PR N} {rows : List (V N)}
theorem PR.Ok.set {r : PR N} (h : r.Ok) : r.set.Ok := ⟨h.who, h.key, h.kept, h.value, h.nd, h.says⟩
theorem PR.Ok.fin {r : PR N} (h : r.Ok) : r.fin.Ok := ⟨h.who, h.key, h.value, h.value, h.nd, h.says⟩
theorem pm_commit' (S : StL O) (hD : 2 ≤ c.D) {p : N} {who key kept value ready tx : V N} {ks : List Str} {vs : List (V N)} (hp : σ p = some (pmO who key (.dct (ks.map V.str) vs) log kept value ready)) (hw : who.hands = true) (hv : value.hands = true) (hl : σ log = some (.list rows)) (hz : rows.length < 1000000) (hn : ks.Nodup) (hk : (dget ks vs ("commit" : Str)).getD (.int 0) = .int 0)
    (h : ∀ σ', σ' log = some (.list (rows ++ [rowV "commit" who])) → σ' p = some (pmO who key (.dct (ks.map V.str) vs) log kept value (.lst [value])) → (∀ n, n ≠ log → n ≠ p → σ' n = σ n) → Q .none σ') : PCc O c (.st (.ref f_PlainManager_commit.addr)) [.ref p, tx] [] [] ρ σ Q X := by
  have hpl : p ≠ log := fun e => by rw [e, hl] at hp; cases hp
  exact pm_commit S hD hp hw hv hl hz hn hk (h _ (by kpt_eq) (by kpt_eq) fun n n1 n2 => by kpt_eq)
theorem loop_begin (S : StL O) {c' : Cx N} {ρ' : Loc N} (hκ : c'.κ 0 = some (.ref t)) (hρ : ρ' 1 = some (.ref srt)) (hg : c'.hd.good = true) (hD : 2 ≤ c'.D) (hs : σ srt = some (.list (ps.map V.ref))) (hl : σ log = some (.list rows)) (hp : Ps σ log ps R) (hn : ps.Nodup) (z : rows.length + ps.length < 1000000) (hne : srt ≠ log) {Q : AF N → Loc N → Sto N → Prop} {X : V N → Loc N → Sto N → Prop}
    (h : ∀ ρ'' σ', (∀ i, i ≠ 2 → ρ'' i = ρ' i) → Walked σ σ' log rows "tpc_begin" ps ps [] R id → Q .next ρ'' σ') : AS O c' (.for (.loc 2) (.loc 1) [.expr (.mcall (.loc 2) ("tpc_begin" : Str) [(.cel 0)] [] [])]) ρ' σ Q X := by
  have hlp : log ∉ ps := hp.not_list hl
  have slog : srt ≠ log := hne
  refine AS.forL hg (AE.loc hρ ⟨ps.map V.ref, .inl rfl, items_ref hs, ?_⟩)
  refine ForL.ind (fun rest ρ σ' => (∀ i, i ≠ 2 → ρ i = ρ' i) ∧ ∃ done todo, rest = todo.map V.ref ∧ Walked σ σ' log rows "tpc_begin" ps done todo R id) (fun ρ σ' hI => ?_) (fun v r ρ σ' hI => ?_) _ _ _ ⟨fun _ _ => rfl, [], ps, rfl, .start hl hp⟩
  · obtain ⟨r3, done, todo, hr, W⟩ := hI
    have htd : todo = [] := by simpa using hr.symm
    subst htd
    have hdone : done = ps := by rw [W.split]; simp
    subst hdone
    exact h ρ σ' r3 W
  · obtain ⟨r3, done, todo, hr, W⟩ := hI
    cases todo with
    | nil => simp at hr
    | cons p todo =>
      rw [List.map_cons, List.cons.injEq] at hr
      obtain ⟨rfl, rfl⟩ := hr
      have hpm : p ∈ ps := by rw [W.split]; simp
      have gp := W.tod p (.head _)
      have gl := W.lg
      have okp := (hp p hpm).2
      have hlen : (rows ++ done.map fun p => rowV "tpc_begin" (R p).who).length < 1000000 := by
        have : done.length ≤ ps.length := by rw [W.split]; simp
        rw [List.length_append, List.length_map]; omega
      kpc_signs
      refine AX.cons (AS.expr rfl (AE.mcall S.ok (AE.loc rfl ?_)))
      kpc_signs
      refine AEl.cons (AE.celR hκ rfl (AEl.nil (AEl.nil ?_)))
      refine PCc.pc (pm_begin S hD gp okp.who gl hlen okp.nd (okp.says _ (by decide +kernel)) ?_)
      kpc_signs
      have W' : Walked σ _ log rows "tpc_begin" ps (done ++ [p]) todo R id := W.step hn hlp (by rw [Sto.set_self]) ((Sto.set_ne (hp.ne hl hpm)).trans gp) fun n n1 n2 => Sto.set_ne n1
      refine ⟨?_, fun i hi => by rw [← r3 i hi]; exact if_neg hi, done ++ [p], todo, rfl, W'⟩
      exact items_ref (((W'.off srt slog (hp.not_list hs))).trans hs)
theorem loop_commit (S : StL O) {c' : Cx N} {ρ' : Loc N} (hκ : c'.κ 0 = some (.ref t)) (hρ : ρ' 1 = some (.ref srt)) (hg : c'.hd.good = true) (hD : 2 ≤ c'.D) (hs : σ srt = some (.list (ps.map V.ref))) (hl : σ log = some (.list rows)) (hp : Ps σ log ps R) (hn : ps.Nodup) (z : rows.length + ps.length < 1000000) (hne : srt ≠ log) {Q : AF N → Loc N → Sto N → Prop} {X : V N → Loc N → Sto N → Prop}
    (h : ∀ ρ'' σ', (∀ i, i ≠ 2 → ρ'' i = ρ' i) → Walked σ σ' log rows "commit" ps ps [] R PR.set → Q .next ρ'' σ') : AS O c' (.for (.loc 2) (.loc 1) [.expr (.mcall (.loc 2) ("commit" : Str) [(.cel 0)] [] [])]) ρ' σ Q X := by
  have hlp : log ∉ ps := hp.not_list hl
  have slog : srt ≠ log := hne
  refine AS.forL hg (AE.loc hρ ⟨ps.map V.ref, .inl rfl, items_ref hs, ?_⟩)
  refine ForL.ind (fun rest ρ σ' => (∀ i, i ≠ 2 → ρ i = ρ' i) ∧ ∃ done todo, rest = todo.map V.ref ∧ Walked σ σ' log rows "commit" ps done todo R PR.set) (fun ρ σ' hI => ?_) (fun v r ρ σ' hI => ?_) _ _ _ ⟨fun _ _ => rfl, [], ps, rfl, .start hl hp⟩
  · obtain ⟨r3, done, todo, hr, W⟩ := hI
    have htd : todo = [] := by simpa using hr.symm
    subst htd
    have hdone : done = ps := by rw [W.split]; simp
    subst hdone
    exact h ρ σ' r3 W
  · obtain ⟨r3, done, todo, hr, W⟩ := hI
    cases todo with
    | nil => simp at hr
    | cons p todo =>
      rw [List.map_cons, List.cons.injEq] at hr
      obtain ⟨rfl, rfl⟩ := hr
      have hpm : p ∈ ps := by rw [W.split]; simp
      have gp := W.tod p (.head _)
      have gl := W.lg
      have okp := (hp p hpm).2
      have hlen : (rows ++ done.map fun p => rowV "commit" (R p).who).length < 1000000 := by
        have : done.length ≤ ps.length := by rw [W.split]; simp
        rw [List.length_append, List.length_map]; omega
      kpc_signs
      refine AX.cons (AS.expr rfl (AE.mcall S.ok (AE.loc rfl ?_)))
      kpc_signs
      refine AEl.cons (AE.celR hκ rfl (AEl.nil (AEl.nil ?_)))
      refine PCc.pc (pm_commit' S hD gp okp.who okp.value gl hlen okp.nd (okp.says _ (by decide +kernel)) fun σ₂ q1 q2 q3 => ?_)
      kpc_signs
      have W' : Walked σ _ log rows "commit" ps (done ++ [p]) todo R PR.set := W.step hn hlp q1 q2 q3
      refine ⟨?_, fun i hi => by rw [← r3 i hi]; exact if_neg hi, done ++ [p], todo, rfl, W'⟩
      exact items_ref (((W'.off srt slog (hp.not_list hs))).trans hs)
theorem loop_finish (S : StL O) {c' : Cx N} {ρ' : Loc N} (hκ : c'.κ 0 = some (.ref t)) (hρ : ρ' 1 = some (.ref srt)) (hg : c'.hd.good = true) (hD : 2 ≤ c'.D) (hs : σ srt = some (.list (ps.map V.ref))) (hl : σ log = some (.list rows)) (hp : Ps σ log ps R) (hn : ps.Nodup) (z : rows.length + ps.length < 1000000) (hne : srt ≠ log) (hrd : ∀ p ∈ ps, (R p).ready = .lst [(R p).value]) {Q : AF N → Loc N → Sto N → Prop} {X : V N → Loc N → Sto N → Prop}
    (h : ∀ ρ'' σ', (∀ i, i ≠ 2 → ρ'' i = ρ' i) → Walked σ σ' log rows "tpc_finish" ps ps [] R PR.fin → Q .next ρ'' σ') : AS O c' (.for (.loc 2) (.loc 1) [.expr (.mcall (.loc 2) ("tpc_finish" : Str) [(.cel 0)] [] [])]) ρ' σ Q X := by
  have hlp : log ∉ ps := hp.not_list hl
  have slog : srt ≠ log := hne
  refine AS.forL hg (AE.loc hρ ⟨ps.map V.ref, .inl rfl, items_ref hs, ?_⟩)
  refine ForL.ind (fun rest ρ σ' => (∀ i, i ≠ 2 → ρ i = ρ' i) ∧ ∃ done todo, rest = todo.map V.ref ∧ Walked σ σ' log rows "tpc_finish" ps done todo R PR.fin) (fun ρ σ' hI => ?_) (fun v r ρ σ' hI => ?_) _ _ _ ⟨fun _ _ => rfl, [], ps, rfl, .start hl hp⟩
  · obtain ⟨r3, done, todo, hr, W⟩ := hI
    have htd : todo = [] := by simpa using hr.symm
    subst htd
    have hdone : done = ps := by rw [W.split]; simp
    subst hdone
    exact h ρ σ' r3 W
  · obtain ⟨r3, done, todo, hr, W⟩ := hI
    cases todo with
    | nil => simp at hr
    | cons p todo =>
      rw [List.map_cons, List.cons.injEq] at hr
      obtain ⟨rfl, rfl⟩ := hr
      have hpm : p ∈ ps := by rw [W.split]; simp
      have gp := W.tod p (.head _)
      unfold PR.obj at gp
      rw [hrd p hpm] at gp
      have gl := W.lg
      have okp := (hp p hpm).2
      have hlen : (rows ++ done.map fun p => rowV "tpc_finish" (R p).who).length < 1000000 := by
        have : done.length ≤ ps.length := by rw [W.split]; simp
        rw [List.length_append, List.length_map]; omega
      kpc_signs
      refine AX.cons (AS.expr rfl (AE.mcall S.ok (AE.loc rfl ?_)))
      kpc_signs
      refine AEl.cons (AE.celR hκ rfl (AEl.nil (AEl.nil ?_)))
      refine PCc.pc (pm_finish S hD gp okp.who gl hlen okp.nd (okp.says _ (by decide +kernel)) fun σ₂ q1 q2 q3 => ?_)
      kpc_signs
      have W' : Walked σ _ log rows "tpc_finish" ps (done ++ [p]) todo R PR.fin := W.step hn hlp q1 q2 q3
      refine ⟨?_, fun i hi => by rw [← r3 i hi]; exact if_neg hi, done ++ [p], todo, rfl, W'⟩
      exact items_ref (((W'.off srt slog (hp.not_list hs))).trans hs)
theorem Walked.toPs {σ₀ σ : Sto N} {what : Str} {f : PR N → PR N} (h : Walked σ₀ σ log rows what ps ps [] R f) (hok : ∀ p ∈ ps, (f (R p)).Ok) : Ps σ log ps (fun p => f (R p)) := fun p hp => ⟨h.don p hp, hok p hp⟩
end
section
variable {N : Type} {O : Om} {c : Cx N} {ρ : Loc N} {σ : Sto N} {Q X : V N → Sto N → Prop}
variable {m w d t res bc ac ba aa log srt : N} {st syn man ad vo ex ft : V N} {ps : List N} {R : N → PR N} {rows : List (V N)}
theorem Walked.also {σ₀ σ : Sto N} {what : Str} {f : PR N → PR N} {done todo : List N} {o : AO N} (h : Walked σ₀ σ log rows what ps done todo R f) (h1 : t ≠ log) (h2 : t ∉ ps) : Walked (σ₀.set t o) (σ.set t o) log rows what ps done todo R f where
  split := h.split
  lg := (Sto.set_ne (Ne.symm h1)).trans h.lg
  don := fun p hp => (Sto.set_ne fun e => h2 (by rw [← e, h.split]; simp [hp])).trans (h.don p hp)
  tod := fun p hp => (Sto.set_ne fun e => h2 (by rw [← e, h.split]; simp [hp])).trans (h.tod p hp)
  off := fun n n1 n2 => by
    by_cases e : n = t
    · subst e; rw [Sto.set_self, Sto.set_self]
    · rw [Sto.set_ne e, Sto.set_ne e]; exact h.off n n1 n2
theorem set_same {n : N} {o : AO N} (h : σ n = some o) : σ.set n o = σ := by
  funext m; unfold Sto.set; split
  · rename_i e; rw [e, h]
  · rfl
abbrev votedO (st syn man ad ex ft : V N) (res bc ac ba aa : N) (done : List N) : AO N := txnO st syn man ad (.lst (done.map V.ref)) ex ft res bc ac ba aa
theorem loop_vote (S : StL O) {c' : Cx N} {ρ' : Loc N} (hκ : c'.κ 0 = some (.ref t)) (hρ : ρ' 1 = some (.ref srt)) (hh : c'.hd = .no) (hD : 4 ≤ c'.D) (ht : σ t = some (votedO st syn man ad ex ft res bc ac ba aa [])) (hs : σ srt = some (.list (ps.map V.ref))) (hl : σ log = some (.list rows)) (hp : Ps σ log ps R) (hn : ps.Nodup) (z : rows.length + ps.length < 1000000) (hne : srt ≠ log) (hv : ∀ p ∈ ps, (R p).says "tpc_vote" 0 ∨ (R p).says "tpc_vote" 1) {Q : AF N → Loc N → Sto N → Prop} {X : V N → Loc N → Sto N → Prop}
    (hQ : (∀ p ∈ ps, (R p).says "tpc_vote" 0) → ∀ ρ'' σ', (∀ i, i ≠ 2 → ρ'' i = ρ' i) → Walked (σ.set t (votedO st syn man ad ex ft res bc ac ba aa ps)) σ' log rows "tpc_vote" ps ps [] R id → Q .next ρ'' σ')
    (hX : ∀ good p rest, ps = good ++ p :: rest → (∀ q ∈ good, (R q).says "tpc_vote" 0) → (R p).says "tpc_vote" 1 → ∀ ρ'' σ', (∀ i, i ≠ 2 → ρ'' i = ρ' i) → Walked (σ.set t (votedO st syn man ad ex ft res bc ac ba aa good)) σ' log rows "tpc_vote" ps (good ++ [p]) rest R id → X (refusal (R p).who (.str "tpc_vote")) ρ'' σ') :
    AS O c' (.for (.loc 2) (.loc 1) [.expr (.mcall (.loc 2) ("tpc_vote" : Str) [(.cel 0)] [] []), .asg [(.attr (.cel 0) ("_voted" : Str))] (.bin .Add (.attr (.cel 0) ("_voted" : Str)) (.lst [(.loc 2)]))]) ρ' σ Q X := by
  have hlp : log ∉ ps := hp.not_list hl
  have hg : c'.hd.good = true := by rw [hh]; rfl
  have tlog : t ≠ log := fun e => by rw [e, hl] at ht; cases ht
  have tps : t ∉ ps := fun hx => by have := (hp t hx).1; rw [ht] at this; cases this
  have st' : srt ≠ t := fun e => by rw [e, ht] at hs; cases hs
  refine AS.forL hg (AE.loc hρ ⟨ps.map V.ref, .inl rfl, items_ref hs, ?_⟩)
  refine ForL.ind (fun rest ρ σ' => (∀ i, i ≠ 2 → ρ i = ρ' i) ∧ ∃ done todo, rest = todo.map V.ref ∧ (∀ q ∈ done, (R q).says "tpc_vote" 0) ∧ Walked (σ.set t (votedO st syn man ad ex ft res bc ac ba aa done)) σ' log rows "tpc_vote" ps done todo R id) (fun ρ σ' hI => ?_) (fun v r ρ σ' hI => ?_) _ _ _ ⟨fun _ _ => rfl, [], ps, rfl, nofun, by rw [set_same ht]; exact .start hl hp⟩
  · obtain ⟨r3, done, todo, hr, h0, W⟩ := hI
    have htd : todo = [] := by simpa using hr.symm
    subst htd
    have hdone : done = ps := by rw [W.split]; simp
    subst hdone
    exact hQ h0 ρ σ' r3 W
  · obtain ⟨r3, done, todo, hr, h0, W⟩ := hI
    cases todo with
    | nil => simp at hr
    | cons p todo =>
      rw [List.map_cons, List.cons.injEq] at hr
      obtain ⟨rfl, rfl⟩ := hr
      have hpm : p ∈ ps := by rw [W.split]; simp
      have gp := W.tod p (.head _)
      have gl := W.lg
      have okp := (hp p hpm).2
      have dlen : done.length + 1 ≤ ps.length := by rw [W.split]; simp
      have hlen : (rows ++ done.map fun p => rowV "tpc_vote" (R p).who).length < 1000000 := by
        have : done.length ≤ ps.length := by rw [W.split]; simp
        rw [List.length_append, List.length_map]; omega
      have gt : σ' t = some (votedO st syn man ad ex ft res bc ac ba aa done) := (W.off t tlog tps).trans Sto.set_self
      kpc_signs
      refine AX.cons (AS.expr rfl (AE.mcall S.ok (AE.loc rfl ?_)))
      kpc_signs
      refine AEl.cons (AE.celR hκ rfl (AEl.nil (AEl.nil ?_)))
      have stepW : Walked (σ.set t (votedO st syn man ad ex ft res bc ac ba aa done)) (σ'.set log (.list ((rows ++ done.map fun p => rowV "tpc_vote" (R p).who) ++ [rowV "tpc_vote" (R p).who]))) log rows "tpc_vote" ps (done ++ [p]) todo R id := W.step hn hlp Sto.set_self ((Sto.set_ne (hp.ne hl hpm)).trans gp) fun n n1 n2 => Sto.set_ne n1
      rcases hv p hpm with hv0 | hv1
      · refine PCc.pc (pm_vote S (by omega) gp okp.who gl hlen okp.nd hv0 ?_)
        kpc_signs

        refine AS.asg ?_
        refine AE.bin ?_
        refine AE.attr ?_
        refine AE.celR hκ rfl ?_
        repeat kpc_signs
        refine AE.lst ?_
        repeat kpc_signs
        refine P2.addL rfl rfl rfl rfl (by rw [List.length_map]; simp; omega) ?_
        repeat kpc_signs
        refine AE.celR hκ rfl ?_
        repeat kpc_signs
        have W' := stepW.also (t := t) (o := votedO st syn man ad ex ft res bc ac ba aa (done ++ [p])) tlog tps
        rw [Sto.set_set] at W'
        have e9 : (done ++ [p]).map V.ref = done.map V.ref ++ [V.ref p] := by simp
        refine ⟨?_, fun i hi => by rw [← r3 i hi]; exact if_neg hi, done ++ [p], todo, rfl, fun q hq => ?_, by simp only [votedO, e9] at W' ⊢; exact W'⟩
        · have := (W'.off srt hne (hp.not_list hs)).trans ((Sto.set_ne st').trans hs)
          simp only [votedO, e9] at this
          exact items_ref this
        · rcases List.mem_append.mp hq with hq | hq
          · exact h0 q hq
          · rw [List.mem_singleton.mp hq]; exact hv0
      · refine PCc.pc (pm_vote_bad S (by omega) hh gp okp.who gl hlen okp.nd hv1 ?_)
        exact hX done p todo W.split h0 hv1 _ _ (fun i hi => by rw [← r3 i hi]; exact if_neg hi) stepW
end
section
variable {N : Type} {O : Om} {c : Cx N} {ρ : Loc N} {σ : Sto N} {Q X : V N → Sto N → Prop}
variable {m w d t res bc ac ba aa log srt crm : N} {st syn man ad vo ex ft : V N} {ps : List N} {R : N → PR N} {rows : List (V N)}
/-- an inst lies there -/
def IsI (σ : Sto N) (n : N) : Prop := ∃ C ns vs, σ n = some (.inst C ns vs)
theorem walks_is {c' : Cx N} {X : V N → Sto N → Prop} (hc : c'.κ 2 = some (.cel crm)) {p : N} (hr : σ crm = some (.cell (some (.ref p)))) (hp : IsI σ p) (K : Sto N → Prop) (hK : K σ) : ∀ (good : List N) (acc : List (V N)) (ρ : Loc N) (Q : List (V N) → Loc N → Sto N → Prop), (∀ q ∈ good, IsI σ q) → acc.length + good.length < 1000000 →
    (∀ add : List (V N), (add = [] ↔ p ∉ good) → add.length ≤ good.length → ∀ ρ, Q (acc ++ add) ρ σ) → itemsW O c' X (.loc 1) [.cmp (.loc 1) [.Is] [.cel 2]] (innerW O c' X (.loc 1) []) K (good.map V.ref) acc ρ σ Q
  | [], acc, ρ, Q, _, _, h => by
    have := h [] (by simp) (Nat.le_refl _) ρ
    rw [List.append_nil] at this
    exact this
  | q :: r, acc, ρ, Q, hg, hz, h => by
    obtain ⟨C1, n1, v1, g1⟩ := hg q (.head _)
    obtain ⟨C2, n2, v2, g2⟩ := hp
    rw [List.length_cons] at hz
    refine ATg.loc (AT.cmp (AE.loc rfl (AE.cel hc hr ?_)))
    by_cases e : q = p
    · subst e
      refine P2.isRef (r := true) g1 g2 (.inl ⟨rfl, by simp⟩) (P1B.bool ?_)
      refine ⟨by omega, AE.loc rfl ⟨hK, ?_⟩⟩
      refine walks_is hc hr ⟨C2, n2, v2, g2⟩ K hK r _ _ _ (fun x hx => hg x (.tail _ hx)) (by rw [List.length_append]; simp; omega) fun add ha hb ρ => ?_
      have := h (.ref q :: add) (by simp) (by simp; omega) ρ
      simpa using this
    · refine P2.isRef (r := false) g1 g2 (.inl ⟨rfl, by simp [e]⟩) (P1B.bool ?_)
      refine ⟨hK, ?_⟩
      refine walks_is hc hr ⟨C2, n2, v2, g2⟩ K hK r _ _ _ (fun x hx => hg x (.tail _ hx)) (by omega) fun add ha hb ρ => ?_
      exact h add (by rw [ha]; simp [Ne.symm e]) (by simp; omega) ρ
abbrev cmpSc : Scope := ⟨.function, [((".0" : Str), .local), (("one" : Str), .local), (("rm" : Str), .free)], false, false, []⟩
theorem not_voted (S : StL O) (hg : c.hd.good = true) (hρ : ρ 0 = some (.ref t)) (hκ : c.κ 2 = some (.cel crm)) {p : N} (hr : σ crm = some (.cell (some (.ref p)))) (hp : IsI σ p) {good : List N} (ht : σ t = some (votedO st syn man ad ex ft res bc ac ba aa good)) (hi : ∀ q ∈ good, IsI σ q) (hz : good.length < 1000000) {Q : Bool → Sto N → Prop} (h : ∀ b : Bool, (b = true ↔ p ∉ good) → Q b σ) :
    AT O c (.not (.comp (.loc 1) [(.mk (.loc 1) (.attr (.loc 0) ("_voted" : Str)) [(.cmp (.loc 1) [.Is] [(.cel 2)])])] cmpSc [(2, 2)])) ρ σ Q X := by
  refine AT.not (AT.val rfl ?_)
  refine AE.comp S.ok hg (by simp [capAll, cmpSc, List.range, List.range.loop, hκ]) ?_
  refine AE.attr (AE.loc hρ ?_)
  refine g_Transaction_voted S ht rfl ?_
  refine ⟨good.map V.ref, rfl, ?_⟩
  refine walks_is (c' := compCx cmpSc [(2, 2)] c) (by show compK cmpSc [(2, 2)] c.κ 2 = _; unfold compK; simp [cmpSc, hκ]) hr hp (fun σ' => walkOf σ' (.lst (good.map V.ref)) = some (good.map V.ref)) rfl good [] _ _ hi (by simpa using hz) fun add ha hb _ => ?_
  refine P1B.lstF (by simp; omega) ?_
  refine h _ ?_
  rw [← ha]
  cases add <;> simp
end
section
variable {N : Type} {O : Om} {c : Cx N} {ρ : Loc N} {σ : Sto N} {Q X : V N → Sto N → Prop}
variable {m w d t res bc ac ba aa log srt crm : N} {st syn man ad vo ex ft : V N} {ps : List N} {R : N → PR N} {rows : List (V N)}
structure WalkG (σ₀ σ : Sto N) (log : N) (rows : List (V N)) (rw : N → List (V N)) (ex ps done todo : List N) (R R' : N → PR N) : Prop where
  split : ps = done ++ todo
  lg : σ log = some (.list (rows ++ done.flatMap rw))
  don : ∀ p ∈ done, σ p = some ((R' p).obj log)
  tod : ∀ p ∈ todo, σ p = some ((R p).obj log)
  off : ∀ n, n ≠ log → n ∉ ex → n ∉ ps → σ n = σ₀ n
theorem WalkG.start {rw : N → List (V N)} {ex : List N} {R' : N → PR N} (hl : σ log = some (.list rows)) (hp : Ps σ log ps R) : WalkG σ σ log rows rw ex ps [] ps R R' :=
  ⟨rfl, by simpa using hl, fun _ h => by (cases h), fun p h => (hp p h).1, fun _ _ _ _ => rfl⟩
theorem WalkG.step {σ₀ σ' : Sto N} {rw : N → List (V N)} {ex done todo : List N} {p : N} {R' : N → PR N} (h : WalkG σ₀ σ log rows rw ex ps done (p :: todo) R R') (hn : ps.Nodup) (hlog : log ∉ ps) (hex : ∀ x ∈ ex, x ∉ ps) (h1 : σ' log = some (.list ((rows ++ done.flatMap rw) ++ rw p))) (h2 : σ' p = some ((R' p).obj log)) (h3 : ∀ n, n ≠ log → n ∉ ex → n ≠ p → σ' n = σ n) :
    WalkG σ₀ σ' log rows rw ex ps (done ++ [p]) todo R R' := by
  have hs := h.split
  rw [hs, List.nodup_append] at hn
  obtain ⟨_, n2, n3⟩ := hn
  rw [List.nodup_cons] at n2
  have mem : ∀ x, x ∈ done ∨ x ∈ todo → x ≠ log ∧ x ∉ ex ∧ x ≠ p := fun x hx => by
    have hxp : x ∈ ps := by rw [hs]; rcases hx with hx | hx <;> simp [hx]
    refine ⟨fun e => hlog (e ▸ hxp), fun e => hex x e hxp, fun e => ?_⟩
    subst e
    rcases hx with hx | hx
    · exact n3 x hx x (by simp) rfl
    · exact n2.1 hx
  refine ⟨by rw [hs]; simp, by rw [h1]; simp, fun x hx => ?_, fun x hx => ?_, fun n q1 q2 q3 => ?_⟩
  · rcases List.mem_append.mp hx with hx | hx
    · obtain ⟨m1, m2, m3⟩ := mem x (.inl hx)
      rw [h3 x m1 m2 m3]; exact h.don x hx
    · rw [List.mem_singleton.mp hx]; exact h2
  · obtain ⟨m1, m2, m3⟩ := mem x (.inr hx)
    rw [h3 x m1 m2 m3]; exact h.tod x (.tail _ hx)
  · rw [h3 n q1 q2 (fun e => q3 (by rw [e, hs]; simp))]; exact h.off n q1 q2 q3
def clNames : List (Str × NameKind) := [("self", .local), ("L", .local), ("rm", .cell), ("Exception", .globalImplicit)]
theorem flat_le {α β : Type} {f : α → List β} (hf : ∀ x, (f x).length ≤ 1) : ∀ l : List α, (l.flatMap f).length ≤ l.length
  | [] => Nat.le_refl _
  | x :: l => by
    have h1 := flat_le hf l
    have h2 := hf x
    rw [List.flatMap_cons, List.length_append, List.length_cons]; omega
open Classical in
theorem cleanup_body (S : StL O) {c' : Cx N} {ρ' : Loc N} (hρ0 : ρ' 0 = some (.ref t)) (hρ1 : ρ' 1 = some (.ref srt)) (hκ : c'.κ 2 = some (.cel crm)) (hD : 2 ≤ c'.D) (hg : c'.hd.good = true) {good rest : List N} {v0 : Option (V N)} (hps : ps = good ++ rest) (ht : σ t = some (votedO st syn man ad ex ft res bc ac ba aa good)) (hs : σ srt = some (.list (ps.map V.ref))) (hl : σ log = some (.list rows)) (hp : Ps σ log ps R) (hn : ps.Nodup) (z : rows.length + 2 * ps.length < 1000000) (hcr : σ crm = some (.cell v0)) (hne : srt ≠ log) {Q : AF N → Loc N → Sto N → Prop} {X : V N → Loc N → Sto N → Prop}
    (h : ∀ σ', σ' log = some (.list ((rows ++ rest.map fun p => rowV "abort" (R p).who) ++ ps.map fun p => rowV "tpc_abort" (R p).who)) → Ps σ' log ps (fun p => (R p).back) → (∀ n, n ≠ log → n ≠ crm → n ∉ ps → σ' n = σ n) → Q .next ρ' σ') :
    AX O c' m_Transaction__cleanup ρ' σ Q X := by
  have hlp : log ∉ ps := hp.not_list hl
  have crmlog : crm ≠ log := fun e => by rw [e, hl] at hcr; cases hcr
  have crmps : crm ∉ ps := fun hx => by have := (hp crm hx).1; rw [hcr] at this; cases this
  have tlog : t ≠ log := fun e => by rw [e, hl] at ht; cases ht
  have tcrm : t ≠ crm := fun e => by rw [e, hcr] at ht; cases ht
  have tps : t ∉ ps := fun hx => by
    have := (hp t hx).1; rw [ht] at this; cases this
  have scrm : srt ≠ crm := fun e => by rw [e, hcr] at hs; cases hs
  have gsub : ∀ q ∈ good, q ∈ ps := fun q hq => by rw [hps]; simp [hq]
  have hsplit := hn
  rw [hps, List.nodup_append] at hsplit
  simp only [m_Transaction__cleanup]
  refine AX.cons (AS.forL hg (AE.loc hρ1 ⟨ps.map V.ref, .inl rfl, items_ref hs, ?_⟩))
  refine ForL.ind (fun r ρ σ' => ρ = ρ' ∧ ∃ done todo v, r = todo.map V.ref ∧ σ' crm = some (.cell v) ∧ WalkG σ σ' log rows (fun p => if p ∈ good then [] else [rowV "abort" (R p).who]) [crm] ps done todo R (fun p => if p ∈ good then R p else (R p).back)) (fun ρ σ' hI => ?_) (fun v r ρ σ' hI => ?_) _ _ _ ⟨rfl, [], ps, v0, rfl, hcr, .start hl hp⟩
  · obtain ⟨rfl, done, todo, v1, hr, hv1, W⟩ := hI
    have htd : todo = [] := by simpa using hr.symm
    subst htd
    have hdone : done = ps := by rw [W.split]; simp
    subst hdone
    have notg : ∀ q ∈ rest, q ∉ good := fun q hq hx => hsplit.2.2 q hx q hq rfl
    have erow : (done.flatMap fun p => if p ∈ good then ([] : List (V N)) else [rowV "abort" (R p).who]) = rest.map fun p => rowV "abort" (R p).who := by
      rw [hps, List.flatMap_append]
      have a1 : ∀ l : List N, (∀ q ∈ l, q ∈ good) → (l.flatMap fun p => if p ∈ good then ([] : List (V N)) else [rowV "abort" (R p).who]) = [] := fun l hl => by
        induction l with
        | nil => rfl
        | cons x l ih => rw [List.flatMap_cons, if_pos (hl x (.head _)), ih fun q hq => hl q (.tail _ hq)]; rfl
      have a2 : ∀ l : List N, (∀ q ∈ l, q ∉ good) → (l.flatMap fun p => if p ∈ good then ([] : List (V N)) else [rowV "abort" (R p).who]) = l.map fun p => rowV "abort" (R p).who := fun l hl => by
        induction l with
        | nil => rfl
        | cons x l ih => rw [List.flatMap_cons, if_neg (hl x (.head _)), ih fun q hq => hl q (.tail _ hq)]; rfl
      rw [a1 good fun q hq => hq, a2 rest notg]; rfl
    have gl := W.lg
    rw [erow] at gl
    have rlen : rest.length ≤ done.length := by rw [hps]; simp
    have hp2 : Ps σ' log done (fun p => if p ∈ good then R p else (R p).back) := fun p hpp => ⟨W.don p hpp, by
      show (if p ∈ good then R p else (R p).back).Ok
      split
      · exact (hp p hpp).2
      · exact (hp p hpp).2.back⟩
    have who2 : ∀ p, (if p ∈ good then R p else (R p).back).who = (R p).who := fun p => by split <;> rfl
    have gs := ((W.off srt hne (by simpa using scrm) (hp.not_list hs))).trans hs
    refine AX.cons (AS.forL hg (AE.loc hρ1 ⟨done.map V.ref, .inl rfl, items_ref gs, ?_⟩))
    refine ForL.ind (fun r ρ2 σ'' => ρ2 = ρ ∧ ∃ d2 todo v, r = todo.map V.ref ∧ σ'' crm = some (.cell v) ∧ WalkG σ' σ'' log (rows ++ rest.map fun p => rowV "abort" (R p).who) (fun p => [rowV "tpc_abort" (R p).who]) [crm] done d2 todo (fun p => if p ∈ good then R p else (R p).back) (fun p => (R p).back)) (fun ρ2 σ'' hI => ?_) (fun v r ρ2 σ'' hI => ?_) _ _ _ ⟨rfl, [], done, v1, rfl, hv1, .start gl hp2⟩
    · obtain ⟨rfl, d2, todo, v2, hr, hv2, W2⟩ := hI
      have htd : todo = [] := by simpa using hr.symm
      subst htd
      have hd2 : d2 = done := by rw [W2.split]; simp
      subst hd2
      refine AX.nil (h σ'' ?_ (fun p hpp => ⟨W2.don p hpp, (hp p hpp).2.back⟩) fun n n1 n2 n3 => ?_)
      · rw [W2.lg]
        rw [show ∀ l : List N, (l.flatMap fun p => [rowV "tpc_abort" (R p).who]) = l.map fun p => rowV "tpc_abort" (R p).who from fun l => by
          induction l with
          | nil => rfl
          | cons x l ih => rw [List.flatMap_cons, ih]; rfl]
      · rw [W2.off n n1 (by simpa using n2) n3, W.off n n1 (by simpa using n2) n3]
    · obtain ⟨rfl, d2, todo, v2, hr, hv2, W2⟩ := hI
      cases todo with
      | nil => simp at hr
      | cons p todo =>
        rw [List.map_cons, List.cons.injEq] at hr
        obtain ⟨rfl, rfl⟩ := hr
        have hpm : p ∈ done := by rw [W2.split]; simp
        have pcrm : p ≠ crm := fun e => crmps (e ▸ hpm)
        have okp := (hp2 p hpm).2
        have exps : ∀ x ∈ [crm], x ∉ done := fun x hx => by rw [List.mem_singleton.mp hx]; exact crmps
        have gp' := (Sto.set_ne (o := .cell (some (.ref p))) pcrm).trans (W2.tod p (.head _))
        have gl' := (Sto.set_ne (o := .cell (some (.ref p))) (Ne.symm crmlog)).trans W2.lg
        have hlen : ((rows ++ rest.map fun p => rowV "abort" (R p).who) ++ d2.flatMap fun p => [rowV "tpc_abort" (R p).who]).length < 1000000 := by
          have h1 : d2.length ≤ done.length := by rw [W2.split]; simp
          have h2 := flat_le (f := fun p => [rowV "tpc_abort" (R p).who]) (fun x => by simp) d2
          rw [List.length_append, List.length_append, List.length_map]; omega
        refine ATg.cel hκ hv2 ?_
        refine AX.cons (AS.tryE (by simp) ?_)
        refine AX.cons (AS.expr rfl (AE.mcall S.ok (AE.cel hκ Sto.set_self ?_)))
        kpc_signs
        refine AEl.cons (AE.loc hρ0 (AEl.nil (AEl.nil ?_)))
        refine PCc.pc (pm_tpc_abort S hD gp' okp.who okp.kept gl' hlen okp.nd (okp.says _ (by decide +kernel)) fun σ₂ q1 q2 q3 => ?_)
        repeat kpc_signs
        have W' := W2.step hn hlp exps (σ' := σ₂) (by rw [who2 p] at q1; exact q1) (by
          rw [q2]
          by_cases hpg : p ∈ good
          · simp only [if_pos hpg]
          · simp only [if_neg hpg]) fun n n1 n2 n3 => (q3 n n1 n3).trans (Sto.set_ne (by simpa using n2))
        exact ⟨items_ref ((W'.off srt hne (by simpa using scrm) (hp.not_list hs)).trans gs), rfl, d2 ++ [p], todo, _, rfl, (q3 crm crmlog (Ne.symm pcrm)).trans Sto.set_self, W'⟩
  · obtain ⟨rfl, done, todo, v1, hr, hv1, W⟩ := hI
    cases todo with
    | nil => simp at hr
    | cons p todo =>
      rw [List.map_cons, List.cons.injEq] at hr
      obtain ⟨rfl, rfl⟩ := hr
      have hpm : p ∈ ps := by rw [W.split]; simp
      have plog := hp.ne hl hpm
      have pcrm : p ≠ crm := fun e => crmps (e ▸ hpm)
      have gp := W.tod p (.head _)
      have gl := W.lg
      have okp := (hp p hpm).2
      have gt : σ' t = some (votedO st syn man ad ex ft res bc ac ba aa good) := (W.off t tlog (by simpa using tcrm) tps).trans ht
      have hlen : (rows ++ done.flatMap fun p => if p ∈ good then [] else [rowV "abort" (R p).who]).length < 1000000 := by
        have h1 : done.length ≤ ps.length := by rw [W.split]; simp
        have h2 := flat_le (f := fun p => if p ∈ good then ([] : List (V N)) else [rowV "abort" (R p).who]) (fun x => by split <;> simp)
        have := h2 done
        rw [List.length_append]; omega
      have isI : ∀ q ∈ ps, IsI (σ'.set crm (.cell (some (.ref p)))) q := fun q hq => by
        have hqc : q ≠ crm := fun e => crmps (e ▸ hq)
        have : q ∈ done ∨ q ∈ p :: todo := by rw [W.split, List.mem_append] at hq; exact hq
        rcases this with hd | hd
        · exact ⟨_, _, _, (Sto.set_ne hqc).trans (W.don q hd)⟩
        · exact ⟨_, _, _, (Sto.set_ne hqc).trans (W.tod q hd)⟩
      refine ATg.cel hκ hv1 ?_
      refine AX.cons (AS.ite ?_)
      refine not_voted S hg hρ0 hκ Sto.set_self (isI p hpm) ((Sto.set_ne tcrm).trans gt) (fun q hq => isI q (gsub q hq)) (by have : good.length ≤ ps.length := (by rw [hps]; simp); omega) fun b hb => ?_
      have fin : ∀ {σ₂ : Sto N}, WalkG σ σ₂ log rows (fun p => if p ∈ good then [] else [rowV "abort" (R p).who]) [crm] ps (done ++ [p]) todo R (fun p => if p ∈ good then R p else (R p).back) → itemsOf σ₂ (.ref srt) = some (ps.map V.ref) := fun {σ₂} W' => items_ref ((W'.off srt hne (by simpa using scrm) (hp.not_list hs)).trans hs)
      have exps : ∀ x ∈ [crm], x ∉ ps := fun x hx => by rw [List.mem_singleton.mp hx]; exact crmps
      have gp' := (Sto.set_ne (o := .cell (some (.ref p))) pcrm).trans gp
      have gl' := (Sto.set_ne (o := .cell (some (.ref p))) (Ne.symm crmlog)).trans gl
      cases b with
      | false =>
        have hpg : p ∈ good := by have := (not_congr hb).mp (by simp); simpa using this
        refine ifF (AX.nil ?_)
        kpc_signs
        have W' := W.step hn hlp exps (σ' := σ'.set crm (.cell (some (.ref p)))) (by rw [if_pos hpg, List.append_nil]; exact gl') (by rw [if_pos hpg]; exact gp') fun n n1 n2 n3 => Sto.set_ne (by simpa using n2)
        exact ⟨fin W', rfl, done ++ [p], todo, _, rfl, Sto.set_self, W'⟩
      | true =>
        have hpg : p ∉ good := hb.mp rfl
        refine ifT ?_
        refine AX.cons (AS.tryE (by simp) ?_)
        refine AX.cons (AS.expr rfl (AE.mcall S.ok (AE.cel hκ Sto.set_self ?_)))
        kpc_signs
        refine AEl.cons (AE.loc hρ0 (AEl.nil (AEl.nil ?_)))
        refine PCc.pc (pm_abort S hD gp' okp.who okp.kept gl' hlen okp.nd (okp.says _ (by decide +kernel)) fun σ₂ q1 q2 q3 => ?_)
        repeat kpc_signs
        have W' := W.step hn hlp exps (σ' := σ₂) (by rw [if_neg hpg]; exact q1) (by rw [if_neg hpg]; exact q2) fun n n1 n2 n3 => (q3 n n1 n3).trans (Sto.set_ne (by simpa using n2))
        exact ⟨fin W', rfl, done ++ [p], todo, _, rfl, (q3 crm crmlog (Ne.symm pcrm)).trans Sto.set_self, W'⟩
theorem cleanup_ok (S : StL O) (hD : 3 ≤ c.D) (hg : c.hd.good = true) {good rest : List N} (hps : ps = good ++ rest) (ht : σ t = some (votedO st syn man ad ex ft res bc ac ba aa good)) (hs : σ srt = some (.list (ps.map V.ref))) (hl : σ log = some (.list rows)) (hp : Ps σ log ps R) (hn : ps.Nodup) (z : rows.length + 2 * ps.length < 1000000) (hcr : σ crm = Option.none) (hne : srt ≠ log)
    (h : ∀ σ', σ' log = some (.list ((rows ++ rest.map fun p => rowV "abort" (R p).who) ++ ps.map fun p => rowV "tpc_abort" (R p).who)) → Ps σ' log ps (fun p => (R p).back) → (∀ n, n ≠ log → n ≠ crm → n ∉ ps → σ' n = σ n) → Q .none σ') :
    PCc O c (.st (.ref f_Transaction__cleanup.addr)) [.ref t, .ref srt] [] [] ρ σ Q X := by
  have F := F_Transaction__cleanup (N := N) S
  have hnm : (rowAt O.K f_Transaction__cleanup.addr).scope.names = clNames := by km_fact
  have e1 : bindP f_Transaction__cleanup.ns [] [.ref t, .ref srt] [] = f_Transaction__cleanup.ns.zip [.ref t, (.ref srt : V N)] := by kernel_rfl
  refine PCc.fn (nm := fun x => if x = ("rm" : Str) then some crm else none) (D' := c.D - 1) (b := .inl f_Transaction__cleanup.ms) S.ok F.st F.row F.cb (by omega) (by kernel_rfl) ?_ ?_ ?_
  · rw [hnm, show cellNames clNames = [("rm" : Str)] from by kernel_rfl]; simp
  · rw [hnm, show cellNames clNames = [("rm" : Str)] from by kernel_rfl]; simp [hcr]
  show AX O _ _ _ _ _ _
  rw [show ([] : List Str).zip ([] : List (V N)) = [] from rfl, show f_Transaction__cleanup.ds.map DV.v = ([] : List (V N)) from rfl, e1, locN_eq F.row.nodup F.names.2 rfl, F.names.1, hnm, show cellNames clNames = [("rm" : Str)] from by kernel_rfl]
  have hκ : kapOf (rowAt O.K f_Transaction__cleanup.addr).scope (fun x => if x = ("rm" : Str) then some crm else none) (f_Transaction__cleanup.ns.zip [.ref t, (.ref srt : V N)]) [] 2 = some (.cel crm) := by
    unfold kapOf; rw [hnm]; rfl
  have hcs : cellsSto (fun x => if x = ("rm" : Str) then some crm else none) (f_Transaction__cleanup.ns.zip [.ref t, (.ref srt : V N)]) [("rm" : Str)] σ = σ.set crm (.cell none) := by
    unfold cellsSto cellsSto
    rw [if_pos rfl, show (f_Transaction__cleanup.ns.zip [.ref t, (.ref srt : V N)]).lookup ("rm" : Str) = none from by kernel_rfl]
  rw [hcs]
  have ne : ∀ {n o}, σ n = some o → n ≠ crm := fun {n o} hn e => by rw [e, hcr] at hn; cases hn
  refine cleanup_body S (v0 := none) rfl rfl hκ (by show 2 ≤ c.D - 1; omega) (by exact hg) hps ((Sto.set_ne (ne ht)).trans ht) ((Sto.set_ne (ne hs)).trans hs) ((Sto.set_ne (ne hl)).trans hl) (fun p hpp => ⟨(Sto.set_ne (ne (hp p hpp).1)).trans (hp p hpp).1, (hp p hpp).2⟩) hn z Sto.set_self hne fun σ' h1 h2 h3 => h σ' h1 h2 fun n n1 n2 n3 => ?_
  rw [h3 n n1 n2 n3, Sto.set_ne n2]
end
section
variable {N : Type} {O : Om} {c : Cx N} {ρ : Loc N} {σ : Sto N} {Q X : V N → Sto N → Prop}
variable {m w d t res bc ac ba aa log srt crm : N} {st syn man ad vo ex ft : V N} {ps : List N} {R : N → PR N} {rows : List (V N)}
def SortedBy (kk : N → Str) (qs : List N) : Prop := qs.Pairwise fun p q => ltCps (kk q).cps.toList (kk p).cps.toList = false
theorem sort_out {kk : N → Str} {ps : List N} {out : List (V N)} (h : SortOut (ps.map kk) (ps.map V.ref) out) : ∃ qs : List N, qs.Perm ps ∧ out = qs.map V.ref ∧ SortedBy kk qs := by
  obtain ⟨pr, h1, h2, h3⟩ := h
  have hz : (ps.map kk).zip (ps.map V.ref) = ps.map fun p => (kk p, (V.ref p : V N)) := by
    have : ∀ l : List N, (l.map kk).zip (l.map V.ref) = l.map fun p => (kk p, (V.ref p : V N)) := fun l => by
      induction l with
      | nil => rfl
      | cons p l ih => rw [List.map_cons, List.map_cons, List.zip_cons_cons, ih]; rfl
    exact this ps
  rw [hz] at h1
  have : ∀ (l : List (Str × V N)) (ps : List N), l.Perm (ps.map fun p => (kk p, (V.ref p : V N))) → ∃ qs : List N, qs.Perm ps ∧ l = qs.map fun p => (kk p, (V.ref p : V N)) := fun l => by
    induction l with
    | nil => intro ps hp; have := hp.length_eq; simp at this; exact ⟨[], by rw [List.eq_nil_of_length_eq_zero this.symm], rfl⟩
    | cons x l ih =>
      intro ps hp
      have hx : x ∈ ps.map fun p => (kk p, (V.ref p : V N)) := hp.mem_iff.mp (.head _)
      obtain ⟨p, hpm, rfl⟩ := List.mem_map.mp hx
      obtain ⟨l1, l2, rfl⟩ := List.append_of_mem hpm
      have h2 : l.Perm ((l1 ++ l2).map fun p => (kk p, (V.ref p : V N))) := by
        refine (List.perm_cons (kk p, (V.ref p : V N))).mp (hp.trans ?_)
        simp only [List.map_append, List.map_cons]
        exact List.perm_middle
      obtain ⟨qs, q1, q2⟩ := ih _ h2
      exact ⟨p :: qs, (q1.cons p).trans List.perm_middle.symm, by rw [q2]; rfl⟩
  obtain ⟨qs, q1, rfl⟩ := this pr ps h1
  refine ⟨qs, q1, by rw [h2, List.map_map]; rfl, ?_⟩
  unfold SortedBy
  rw [List.pairwise_map] at h3
  exact h3
theorem Ps.perm {σ : Sto N} {qs : List N} (h : Ps σ log ps R) (hp : qs.Perm ps) : Ps σ log qs R := fun p hpp => h p (hp.mem_iff.mp hpp)
theorem lam_ok (ok : O.Ok) {k : Nat} {v : V N} (hn : c.fc.nest = true) (hκ : c.κ 0 = some v) (h : Q (.clo k [v]) σ) : AE O c (.lam k [0]) ρ σ Q X := AE.lam ok hn (by simp [hκ]) h
/-- what a commit's walk over the sorted managers writes, when all votes go well -/
def goneRows (qs : List N) (R : N → PR N) : List (V N) := (qs.map fun p => rowV "tpc_begin" (R p).who) ++ (qs.map fun p => rowV "commit" (R p).who) ++ (qs.map fun p => rowV "tpc_vote" (R p).who) ++ (qs.map fun p => rowV "tpc_finish" (R p).who)
/-- .. and when the vote of bad goes badly -/
def badRows (good : List N) (bad : N) (rest : List N) (R : N → PR N) : List (V N) := ((good ++ bad :: rest).map fun p => rowV "tpc_begin" (R p).who) ++ ((good ++ bad :: rest).map fun p => rowV "commit" (R p).who) ++ ((good ++ [bad]).map fun p => rowV "tpc_vote" (R p).who) ++
  ((bad :: rest).map fun p => rowV "abort" (R p).who) ++ ((good ++ bad :: rest).map fun p => rowV "tpc_abort" (R p).who)
theorem commit_resources (S : StL O) (hD : 5 ≤ c.D) (hh : c.hd = .no) (ht : σ t = some (votedO st (.ref w) man ad ex ft res bc ac ba aa [])) (hw : σ w = some (wsO d)) (hdd : σ d = some (.list [])) (h1 : σ res = some (.list (ps.map V.ref))) (hl : σ log = some (.list rows)) (hp : Ps σ log ps R) (hn : ps.Nodup) (z : rows.length + 10 * ps.length < 1000000) (z2 : ps.length < 64) {kk : N → Str} (hk : ∀ p ∈ ps, (R p).key = .str (kk p)) (hsr : σ srt = Option.none) (hcr : σ crm = Option.none) (hsc : srt ≠ crm) (hdl : d ≠ log)
    (hv : ∀ p ∈ ps, (R p).says "tpc_vote" 0 ∨ (R p).says "tpc_vote" 1)
    (hQ : ∀ qs σ', qs.Perm ps → SortedBy kk qs → (∀ p ∈ ps, (R p).says "tpc_vote" 0) → σ' log = some (.list (rows ++ goneRows qs R)) → Ps σ' log ps (fun p => (R p).set.fin) → σ' t = some (votedO st (.ref w) man ad ex ft res bc ac ba aa qs) → (∀ n, n ≠ log → n ≠ t → n ≠ srt → n ∉ ps → σ' n = σ n) → Q .none σ')
    (hX : ∀ good bad rest σ', (good ++ bad :: rest).Perm ps → SortedBy kk (good ++ bad :: rest) → (R bad).says "tpc_vote" 1 → σ' log = some (.list (rows ++ badRows good bad rest R)) → Ps σ' log ps (fun p => (R p).back) → σ' t = some (votedO st (.ref w) man ad ex ft res bc ac ba aa good) → (∀ n, n ≠ log → n ≠ t → n ≠ srt → n ≠ crm → n ∉ ps → σ' n = σ n) → X (refusal (R bad).who (.str "tpc_vote")) σ') :
    PCc O c (.st (.ref f_Transaction__commitResources.addr)) [.ref t] [] [] ρ σ Q X := by
  have hlp : log ∉ ps := hp.not_list hl
  have tlog : t ≠ log := fun e => by rw [e, hl] at ht; cases ht
  have tps : t ∉ ps := fun hx => by have := (hp t hx).1; rw [ht] at this; cases this
  have fresh : ∀ {n o}, σ n = some o → n ≠ srt := fun {n o} hn e => by rw [e, hsr] at hn; cases hn
  have freshc : ∀ {n o}, σ n = some o → n ≠ crm := fun {n o} hn e => by rw [e, hcr] at hn; cases hn
  have slog : srt ≠ log := Ne.symm (fresh hl)
  have sps : srt ∉ ps := fun hx => fresh (hp srt hx).1 rfl
  have wlog : w ≠ log := fun e => by rw [e, hl] at hw; cases hw
  have wps : w ∉ ps := fun hx => by have := (hp w hx).1; rw [hw] at this; cases this
  have wt : w ≠ t := fun e => by rw [e, ht] at hw; cases hw
  have dps : d ∉ ps := hp.not_list hdd
  have dt : d ≠ t := fun e => by rw [e, ht] at hdd; cases hdd
  refine PCc.goP (e := f_Transaction__commitResources) (bv := [.ref t]) S.ok (F_Transaction__commitResources S) (by omega) (Nat.le_of_ble_eq_true rfl) (Nat.le_of_ble_eq_true rfl) (Nat.le_of_ble_eq_true rfl) rfl ?_
  repeat kpc_signs
  refine PC.listN srt (.inl rfl) (items_ref h1) (by rw [List.length_map]; omega) hsr ?_
  repeat kpc_signs
  refine PM.sort Sto.set_self ?_
  repeat kpc_signs
  refine PC.sortKey (ks := ps.map kk) (D' := c.D - 1 - 1) Sto.set_self (by rw [List.length_map, List.length_map]) (by rw [List.length_map]; exact z2) (by show c.D - 1 = _; omega) (.inr ⟨_, rfl⟩) (fun ob i v k hvi hki => ?_) fun out hout => ?_
  · obtain ⟨p, hpi, rfl⟩ : ∃ p, ps[i]? = some p ∧ v = .ref p := by
      rw [List.getElem?_map] at hvi
      cases q : ps[i]? with
      | none => rw [q] at hvi; cases hvi
      | some p => rw [q] at hvi; exact ⟨p, rfl, (Option.some.inj hvi).symm⟩
    have hkp : k = kk p := by rw [List.getElem?_map, hpi] at hki; exact (Option.some.inj hki).symm
    have hpm := List.mem_of_getElem? hpi
    have psr : p ≠ srt := fun e => sps (e ▸ hpm)
    refine PCc.pc (rm_key_ok S (by show 2 ≤ c.D - 1 - 1; omega) ((Sto.set_ne psr).trans ((Sto.set_ne psr).trans (hp p hpm).1)) (by rw [hk p hpm]; rfl) ?_)
    exact ⟨by rw [hk p hpm, hkp], rfl⟩
  obtain ⟨qs, hqp, rfl, hsort⟩ := sort_out hout
  rw [Sto.set_set]
  have hqn : qs.Nodup := hqp.nodup_iff.mpr hn
  have hqm : ∀ p, p ∈ qs ↔ p ∈ ps := fun p => hqp.mem_iff
  have hql := hqp.length_eq
  have nps : ∀ {n : N}, n ∉ ps → n ∉ qs := fun {n} h hx => h ((hqm n).mp hx)
  have base : ∀ {n o}, σ n = some o → (σ.set srt (.list (qs.map V.ref))) n = some o := fun {n o} hn => (Sto.set_ne (fresh hn)).trans hn
  have hp0 : Ps (σ.set srt (.list (qs.map V.ref))) log qs R := fun p hpp => ⟨base (hp p ((hqm p).mp hpp)).1, (hp p ((hqm p).mp hpp)).2⟩
  have tsrt := fresh ht
  have wsrt := fresh hw
  have dsrt := fresh hdd
  repeat kpc_signs
  refine AS.tryE (by simp) ?_
  refine AX.cons (loop_begin S rfl rfl (by show c.hd.good = true; rw [hh]; rfl) (by show 2 ≤ c.D - 1; omega) (srt := srt) (ps := qs) (rows := rows) (R := R) (log := log) Sto.set_self (base hl) hp0 hqn (by omega) slog fun ρ₁ σ₁ r1 W1 => ?_)
  have l1 := W1.lg
  have p1 := W1.toPs (fun p hpp => (hp0 p hpp).2)
  have s1 : σ₁ srt = some (.list (qs.map V.ref)) := (W1.off srt slog (nps sps)).trans Sto.set_self
  refine AX.cons (loop_commit S rfl (r1 1 (by decide)) (by show c.hd.good = true; rw [hh]; rfl) (by show 2 ≤ c.D - 1; omega) s1 l1 p1 hqn (by rw [List.length_append, List.length_map]; omega) slog fun ρ₂ σ₂ r2 W2 => ?_)
  have l2 := W2.lg
  have p2 := W2.toPs (fun p hpp => (p1 p hpp).2.set)
  have s2 : σ₂ srt = some (.list (qs.map V.ref)) := (W2.off srt slog (nps sps)).trans s1
  have t2 : σ₂ t = some (votedO st (.ref w) man ad ex ft res bc ac ba aa []) := (W2.off t tlog (nps tps)).trans ((W1.off t tlog (nps tps)).trans (base ht))
  have z4 : ((rows ++ qs.map fun p => rowV "tpc_begin" (R p).who) ++ qs.map fun p => rowV "commit" (R p).who).length + 6 * qs.length < 1000000 := by simp only [List.length_append, List.length_map]; omega
  refine AX.cons (loop_vote S rfl ((r2 1 (by decide)).trans (r1 1 (by decide))) (by exact hh) (by show 4 ≤ c.D - 1; omega) t2 s2 l2 p2 hqn (by have := z4; simp only [List.length_append, List.length_map] at this ⊢; omega) slog (fun p hpp => hv p ((hqm p).mp hpp)) (fun h0 ρ₃ σ₃ r3 W3 => ?_) fun good bad rest hsplit h0 h1b ρ₃ σ₃ r3 W3 => ?_)
  · have l3 := W3.lg
    have p3 := W3.toPs (fun p hpp => (p2 p hpp).2)
    have t3 : σ₃ t = some (votedO st (.ref w) man ad ex ft res bc ac ba aa qs) := (W3.off t tlog (nps tps)).trans Sto.set_self
    have s3 : σ₃ srt = some (.list (qs.map V.ref)) := (W3.off srt slog (nps sps)).trans ((Sto.set_ne (Ne.symm tsrt)).trans s2)
    refine AX.cons (AS.tryE (by simp) ?_)
    refine AX.cons (loop_finish S rfl ((r3 1 (by decide)).trans ((r2 1 (by decide)).trans (r1 1 (by decide)))) (by show c.hd.good = true; rw [hh]; rfl) (by show 2 ≤ c.D - 1; omega) s3 l3 p3 hqn (by have := z4; simp only [List.length_append, List.length_map] at this ⊢; omega) slog (fun p hpp => rfl) fun ρ₄ σ₄ r4 W4 => ?_)
    repeat kpc_signs
    have p4 := W4.toPs (fun p hpp => (p3 p hpp).2.fin)
    refine hQ qs σ₄ hqp hsort (fun p hpp => h0 p ((hqm p).mpr hpp)) ?_ (fun p hpp => p4 p ((hqm p).mpr hpp)) ((W4.off t tlog (nps tps)).trans t3) fun n n1 n2 n3 n4 => ?_
    · rw [W4.lg]; simp only [goneRows, List.append_assoc, id]
    · rw [W4.off n n1 (nps n4), W3.off n n1 (nps n4), Sto.set_ne n2, W2.off n n1 (nps n4), W1.off n n1 (nps n4), Sto.set_ne n3]
  · have l3 := W3.lg
    have p3 : Ps σ₃ log qs (fun p => id (PR.set (id (R p)))) := fun p hpp => by
      have : p ∈ good ++ [bad] ∨ p ∈ rest := by rw [hsplit] at hpp; simp only [List.mem_append, List.mem_cons, List.not_mem_nil, or_false] at hpp ⊢; rcases hpp with h | h | h <;> simp [h]
      refine ⟨?_, (p2 p hpp).2⟩
      rcases this with h | h
      · exact W3.don p h
      · exact W3.tod p h
    have t3 : σ₃ t = some (votedO st (.ref w) man ad ex ft res bc ac ba aa good) := (W3.off t tlog (nps tps)).trans Sto.set_self
    have s3 : σ₃ srt = some (.list (qs.map V.ref)) := (W3.off srt slog (nps sps)).trans ((Sto.set_ne (Ne.symm tsrt)).trans s2)
    have off3 : ∀ n, n ≠ log → n ≠ t → n ≠ srt → n ∉ ps → σ₃ n = σ n := fun n n1 n2 n3 n4 => by rw [W3.off n n1 (nps n4), Sto.set_ne n2, W2.off n n1 (nps n4), W1.off n n1 (nps n4), Sto.set_ne n3]
    have crl : crm ≠ log := Ne.symm (freshc hl)
    have crps : crm ∉ ps := fun hx => freshc (hp crm hx).1 rfl
    have cr3 : σ₃ crm = Option.none := (off3 crm crl (Ne.symm (freshc ht)) (Ne.symm hsc) crps).trans hcr
    have rlen : (good ++ [bad]).length ≤ qs.length := by rw [hsplit]; simp
    refine AH.all ?_
    show AX O _ _ _ _ _ _
    refine AX.cons (AS.tryF (by simp) ?_)
    refine AX.cons (AS.expr rfl (AE.mcall S.ok (AE.celR rfl rfl ?_)))
    repeat kpc_signs
    refine AE.loc ((r3 1 (by decide)).trans ((r2 1 (by decide)).trans (r1 1 (by decide)))) ?_
    repeat kpc_signs
    refine PCc.pc (cleanup_ok S (crm := crm) (by show 3 ≤ c.D - 1; omega) rfl hsplit t3 s3 l3 p3 hqn (by have := z4; simp only [List.length_append, List.length_map] at this rlen ⊢; omega) cr3 slog fun σ₄ g1 g2 g3 => ?_)
    have w4 : σ₄ w = some (wsO d) := (g3 w wlog (freshc hw) (nps wps)).trans ((off3 w wlog wt wsrt wps).trans hw)
    have d4 : σ₄ d = some (.list []) := (g3 d hdl (freshc hdd) (nps dps)).trans ((off3 d hdl dt dsrt dps).trans hdd)
    have t4 : σ₄ t = some (votedO st (.ref w) man ad ex ft res bc ac ba aa good) := (g3 t tlog (freshc ht) (nps tps)).trans t3
    repeat kpc_signs
    refine PCc.pc (ws_map S (by show 2 ≤ c.D - 1; omega) rfl w4 d4 ?_)
    repeat kpc_signs
    refine AS.reraise rfl ?_
    refine hX good bad rest σ₄ (hsplit ▸ hqp) (hsplit ▸ hsort) h1b ?_ (fun p hpp => ?_) t4 fun n n1 n2 n3 n4 n5 => ?_
    · rw [g1]; simp only [badRows, List.append_assoc, id, ← hsplit]
    · exact g2 p ((hqm p).mpr hpp)
    · rw [g3 n n1 n4 (nps n5), off3 n n1 n2 n3 n5]
end
section
variable {N : Type} {O : Om} {c : Cx N} {ρ : Loc N} {σ : Sto N} {Q X : V N → Sto N → Prop}
variable {m w d t res bc ac ba aa log srt crm sio : N} {st syn man ad vo ex ft : V N} {ps : List N} {R : N → PR N} {rows : List (V N)}
theorem PCc.mono {f : V N} {as ks : List (V N)} {ns : List Str} {Q' X' : V N → Sto N → Prop} (h : PCc O c f as ns ks ρ σ Q X) (hq : ∀ v σ, Q v σ → Q' v σ) (hx : ∀ v σ, X v σ → X' v σ) : PCc O c f as ns ks ρ σ Q' X' := ⟨h.1, fun A env T Φ s fv avs kvs hA hf has hus => codeAny_mono (h.2 A env T Φ s fv avs kvs hA hf has hus) fun r s' hr => by
  match r, hr with
  | .ok (.ret v), hr => exact Post.up hr (TM.le_refl _) rfl rfl hq
  | .error e, hr => exact (let ⟨T, σ, v, a, b, d, e, f, y, g⟩ := hr; ⟨T, σ, v, a, b, d, e, f, y, hx _ _ g⟩)⟩
theorem save_error (S : StL O) (hD : 2 ≤ c.D) (ht : σ t = some (txnO st syn man ad vo ex ft res bc ac ba aa)) (hs : σ sio = Option.none)
    (h : ∀ σ', σ' t = some (txnO (.st s_COMMITFAILED) syn man ad vo ex (.ref sio) res bc ac ba aa) → (∀ n, n ≠ t → n ≠ sio → σ' n = σ n) → Q .none σ') : PCc O c (.st (.ref f_Transaction__saveAndGetCommitishError.addr)) [.ref t] [] [] ρ σ Q X := by
  refine PCc.goP (e := f_Transaction__saveAndGetCommitishError) (bv := [.ref t]) S.ok (F_Transaction__saveAndGetCommitishError S) (by omega) (Nat.le_of_ble_eq_true rfl) (Nat.le_of_ble_eq_true rfl) (Nat.le_of_ble_eq_true rfl) rfl ?_
  have hne : t ≠ sio := fun e => by rw [e, hs] at ht; cases ht
  repeat kpc_signs
  refine PCc.pc (PCc.goP (e := f__makeTracebackBuffer) (bv := []) S.ok (F__makeTracebackBuffer S) (by show 1 ≤ c.D - 1; omega) (Nat.le_of_ble_eq_true rfl) (Nat.le_of_ble_eq_true rfl) (Nat.le_of_ble_eq_true rfl) rfl ?_)
  repeat kpc_signs
  refine PCc.pc (PCc.make0 (n := sio) S.ok (mk0B_ok (by km_fact)) (by kpt_eq) ?_)
  repeat kpc_signs
  exact h _ (by kpt_eq) fun n n1 n2 => by kpt_eq
abbrev HK (N : Type) : Type := V N × List (V N) × V N
abbrev HK.v {N : Type} (h : HK N) : V N := .tup [h.1, .tup h.2.1, h.2.2]
theorem call_hooks_run (S : StL O) (hD : 1 ≤ c.D) (hh : c.hd = .no) {hk : HK N} {hs : List (HK N)} (h0 : σ bc = some (.list ((hk :: hs).map HK.v))) (z : (hk :: hs).length < 1000000) (I : List (HK N) → Sto N → Prop) (XC : V N → Sto N → Prop) (hI : I (hk :: hs) σ) (keep : ∀ r σ, I r σ → σ bc = some (.list ((hk :: hs).map HK.v)))
    (step : ∀ f as kw r σ c' ρ', c'.D = c.D - 1 → c'.hd = .no → I ((f, as, kw) :: r) σ → PCc O c' f [.tup as, kw] [] [] ρ' σ (fun _ σ' => I r σ') (fun x σ' => σ' bc = some (.list ((hk :: hs).map HK.v)) ∧ XC x σ'))
    (hQ : ∀ σ', I [] σ' → Q .none (σ'.set bc (.list []))) (hX : ∀ x σ', σ' bc = some (.list ((hk :: hs).map HK.v)) → XC x σ' → X x (σ'.set bc (.list []))) :
    PCc O c (.st (.ref f_Transaction__call_hooks.addr)) [.ref t, .ref bc] [] [] ρ σ Q X := by
  refine PCc.goP (e := f_Transaction__call_hooks) (bv := [.ref t, .ref bc, .bool true, .bool false, .tup []]) S.ok (F_Transaction__call_hooks S) (by omega) (Nat.le_of_ble_eq_true rfl) (Nat.le_of_ble_eq_true rfl) (Nat.le_of_ble_eq_true rfl) rfl ?_
  have zl : ((hk :: hs).map HK.v).length < 1000000 := by rw [List.length_map]; exact z
  repeat kpc_signs
  refine AS.tryF (by simp) ?_
  refine AX.cons (AS.forL (by show c.hd.good = true; rw [hh]; rfl) (AE.loc rfl ⟨(hk :: hs).map HK.v, .inl rfl, items_ref h0, ?_⟩))
  refine ForL.ind (fun rest ρ' σ' => (ρ' 1 = some (.ref bc) ∧ ρ' 2 = some (.bool true) ∧ ρ' 3 = some (.bool false) ∧ ρ' 4 = some (.tup [])) ∧ ∃ r, rest = r.map HK.v ∧ I r σ') (fun ρ σ' hI => ?_) (fun v r ρ σ' hI => ?_) _ _ _ ⟨⟨rfl, rfl, rfl, rfl⟩, _, rfl, hI⟩
  · obtain ⟨⟨r1, r2, r3, r4⟩, r, hr, hI⟩ := hI
    have : r = [] := by simpa using hr.symm
    subst this
    repeat kpc_signs
    refine AS.delAll (AE.loc r1 ⟨bc, _, rfl, keep _ _ hI, zl, ?_⟩)
    refine AX.cons (AS.ite (AT.val rfl (AE.loc r3 ?_)))
    repeat kpc_signs
    exact hQ _ hI
  · obtain ⟨⟨r1, r2, r3, r4⟩, r, hr, hI⟩ := hI
    cases r with
    | nil => simp at hr
    | cons k r =>
      rw [List.map_cons, List.cons.injEq] at hr
      obtain ⟨rfl, rfl⟩ := hr
      obtain ⟨f, as, kw⟩ := k
      refine ATg.tup hh rfl ?_
      refine ATg.loc (ATg.loc (ATg.loc ?_))
      refine AX.cons (AS.tryE (by simp) ?_)
      refine AX.cons (AS.expr rfl (AE.call S.ok (AE.loc rfl (AEl.cons (AE.bin (AE.loc r4 (AE.loc rfl (P2.addTnil (AEl.cons (AE.loc rfl (AEl.nil (AEl.nil ?_))))))))))))
      refine PCc.pc (PCc.mono (step f as kw r σ' _ _ rfl (by exact hh) hI) (fun v σ₁ h' => ?_) fun x σ₁ h' => ?_)
      · repeat kpc_signs
        exact ⟨items_ref (keep _ _ h'), ⟨r1, r2, r3, r4⟩, r, rfl, h'⟩
      · obtain ⟨hb, hx⟩ := h'
        refine AH.all ?_
        show AX O _ _ _ _ _ _
        refine AX.cons (AS.ite (AT.val rfl (AE.loc r2 ?_)))
        repeat kpc_signs
        refine AS.reraise rfl ?_
        kpc_signs
        refine AX.cons (AS.delAll (AE.loc r1 ⟨bc, _, rfl, hb, zl, ?_⟩))
        refine AX.cons (AS.ite (AT.val rfl (AE.loc r3 ?_)))
        repeat kpc_signs
        exact hX _ _ hb hx
theorem before_commit0 (S : StL O) (hD : 2 ≤ c.D) (ht : σ t = some (txnO st syn man ad vo ex ft res bc ac ba aa)) (h0 : σ bc = some (.list [])) (h : Q .none σ) : PCc O c (.st (.ref f_Transaction__callBeforeCommitHooks.addr)) [.ref t] [] [] ρ σ Q X := by
  refine PCc.goP (e := f_Transaction__callBeforeCommitHooks) (bv := [.ref t]) S.ok (F_Transaction__callBeforeCommitHooks S) (by omega) (Nat.le_of_ble_eq_true rfl) (Nat.le_of_ble_eq_true rfl) (Nat.le_of_ble_eq_true rfl) rfl ?_
  repeat kpc_signs
  refine PCc.pc (call_hooks0 S (by show 1 ≤ c.D - 1; omega) h0 ?_)
  repeat kpc_signs
  exact h
/-- the hooks ahead of a commit, one or none -/
theorem before_commit (S : StL O) (hD : 2 ≤ c.D) (hh : c.hd = .no) {hs : List (HK N)} (ht : σ t = some (txnO st syn man ad vo ex ft res bc ac ba aa)) (h0 : σ bc = some (.list (hs.map HK.v))) (z : hs.length < 1000000) (I : List (HK N) → Sto N → Prop) (XC : V N → Sto N → Prop) (hI : I hs σ) (keep : ∀ r σ, I r σ → σ bc = some (.list (hs.map HK.v)))
    (step : ∀ f as kw r σ c' ρ', c'.D = c.D - 2 → c'.hd = .no → I ((f, as, kw) :: r) σ → PCc O c' f [.tup as, kw] [] [] ρ' σ (fun _ σ' => I r σ') (fun x σ' => σ' bc = some (.list (hs.map HK.v)) ∧ XC x σ'))
    (hQ : ∀ σ', I [] σ' → Q .none (σ'.set bc (.list []))) (hX : ∀ x σ', σ' bc = some (.list (hs.map HK.v)) → XC x σ' → X x (σ'.set bc (.list []))) :
    PCc O c (.st (.ref f_Transaction__callBeforeCommitHooks.addr)) [.ref t] [] [] ρ σ Q X := by
  cases hs with
  | nil =>
    refine before_commit0 S hD ht h0 ?_
    have := hQ _ hI
    have e : σ.set bc (.list []) = σ := by
      funext n
      by_cases hn : n = bc
      · subst hn; rw [Sto.set_self]; exact h0.symm
      · exact Sto.set_ne hn
    rw [e] at this
    exact this
  | cons hk hs =>
    refine PCc.goP (e := f_Transaction__callBeforeCommitHooks) (bv := [.ref t]) S.ok (F_Transaction__callBeforeCommitHooks S) (by omega) (Nat.le_of_ble_eq_true rfl) (Nat.le_of_ble_eq_true rfl) (Nat.le_of_ble_eq_true rfl) rfl ?_
    repeat kpc_signs
    refine PCc.pc (call_hooks_run S (by show 1 ≤ c.D - 1; omega) (by exact hh) h0 z I XC hI keep (fun f as kw r σ c' ρ' e1 e2 e3 => step f as kw r σ c' ρ' (by rw [e1]; show c.D - 1 - 1 = _; omega) e2 e3) (fun σ' h' => ?_) fun x σ' hb hx => ?_)
    · repeat kpc_signs
      exact hQ _ h'
    · exact hX _ _ hb hx
end
section
variable {N : Type} {O : Om} {c : Cx N} {ρ : Loc N} {σ : Sto N} {Q X : V N → Sto N → Prop}
variable {m w d t res bc ac ba aa log srt crm sio : N} {st syn man ad vo ex ft : V N} {ps : List N} {R : N → PR N} {rows : List (V N)}
abbrev doomedX {N : Type} : V N := .exc (.ref C_DoomedTransaction) true [] []
theorem doomed_cls (S : StL O) : ExcCls O (.ref C_DoomedTransaction) := excClsB_ok (by km_fact)
theorem txn_commit_doomed (S : StL O) (hD : 1 ≤ c.D) (hh : c.hd = .no) (ht : σ t = some (txnO (.st s_DOOMED) syn man ad vo ex ft res bc ac ba aa)) (h : X doomedX σ) : PCc O c (.st (.ref f_Transaction_commit.addr)) [.ref t] [] [] ρ σ Q X := by
  refine PCc.goP (e := f_Transaction_commit) (bv := [.ref t]) S.ok (F_Transaction_commit S) (by omega) (Nat.le_of_ble_eq_true rfl) (Nat.le_of_ble_eq_true rfl) (Nat.le_of_ble_eq_true rfl) rfl ?_
  repeat kpc_signs
  refine AS.raise S.ok ?_
  repeat kpc_signs
  refine PC.excPlain S.ok (excMk S (by km_fact)) (by km_fact) (by simp) ?_
  exact ⟨_, _, _, _, rfl, doomed_cls S, by rw [hh]; trivial, h⟩
/-- a transaction, before it asks its managers -/
structure TxR (σ : Sto N) (m w d t res bc ac ba aa log srt crm sio : N) (st ad ex ft : V N) (ps : List N) (R : N → PR N) (rows : List (V N)) : Prop where
  gt : σ t = some (votedO st (.ref w) (.ref m) ad ex ft res bc ac ba aa [])
  gm : σ m = some (tmO (.ref t) w)
  gw : σ w = some (wsO d)
  gd : σ d = some (.list [])
  g1 : σ res = some (.list (ps.map V.ref))
  g3 : σ ac = some (.list [])
  g4 : σ ba = some (.list [])
  g5 : σ aa = some (.list [])
  gl : σ log = some (.list rows)
  gp : Ps σ log ps R
  gs : σ srt = Option.none
  gc : σ crm = Option.none
  gi : σ sio = Option.none
theorem txn_commit (S : StL O) (hD : 7 ≤ c.D) (hh : c.hd = .no) (A : TApart t res bc ac ba aa) {hs : List (HK N)} (ht : σ t = some (votedO (.st s_ACTIVE) (.ref w) (.ref m) ad ex ft res bc ac ba aa [])) (h0 : σ bc = some (.list (hs.map HK.v))) (z : hs.length < 1000000) (I : List (HK N) → Sto N → Prop) (XC : V N → Sto N → Prop) (hI : I hs σ) (keep : ∀ r σ, I r σ → σ bc = some (.list (hs.map HK.v)))
    (step : ∀ f as kw r σ c' ρ', c'.D = c.D - 3 → c'.hd = .no → I ((f, as, kw) :: r) σ → PCc O c' f [.tup as, kw] [] [] ρ' σ (fun _ σ' => I r σ') (fun x σ' => σ' bc = some (.list (hs.map HK.v)) ∧ XC x σ'))
    (after : ∀ σ', I [] σ' → ∃ rows, TxR σ' m w d t res bc ac ba aa log srt crm sio (.st s_ACTIVE) ad ex ft ps R rows ∧ rows.length + 10 * ps.length < 1000000)
    (hn : ps.Nodup) (z2 : ps.length < 64) {kk : N → Str} (hk : ∀ p ∈ ps, (R p).key = .str (kk p)) (hv : ∀ p ∈ ps, (R p).says "tpc_vote" 0 ∨ (R p).says "tpc_vote" 1) (hsc : [srt, crm, sio].Nodup) (hdl : d ∉ [log, bc]) (hlb : log ∉ [res, bc, ac, ba, aa])
    (hQ : ∀ σ₀ rows qs σ', I [] σ₀ → TxR σ₀ m w d t res bc ac ba aa log srt crm sio (.st s_ACTIVE) ad ex ft ps R rows → qs.Perm ps → SortedBy kk qs → (∀ p ∈ ps, (R p).says "tpc_vote" 0) → σ' log = some (.list (rows ++ goneRows qs R)) → Ps σ' log ps (fun p => (R p).set.fin) → σ' m = some (tmO .none w) → σ' t = some (txnO (.st s_COMMITTED) (.st g__NoSynchronizers) .none .none .none .none ft res bc ac ba aa) → (∀ n, n ∉ [log, t, m, res, bc, ac, ba, aa, srt, crm, sio] → n ∉ ps → σ' n = σ₀ n) → Q .none σ')
    (hXh : ∀ x σ', σ' bc = some (.list (hs.map HK.v)) → XC x σ' → X x (σ'.set bc (.list [])))
    (hX : ∀ σ₀ rows good bad rest σ', I [] σ₀ → TxR σ₀ m w d t res bc ac ba aa log srt crm sio (.st s_ACTIVE) ad ex ft ps R rows → (good ++ bad :: rest).Perm ps → SortedBy kk (good ++ bad :: rest) → (R bad).says "tpc_vote" 1 → σ' log = some (.list (rows ++ badRows good bad rest R)) → Ps σ' log ps (fun p => (R p).back) → σ' t = some (votedO (.st s_COMMITFAILED) (.ref w) (.ref m) ad ex (.ref sio) res bc ac ba aa good) → σ' bc = some (.list []) → (∀ n, n ∉ [log, t, bc, srt, crm, sio] → n ∉ ps → σ' n = σ₀ n) → X (refusal (R bad).who (.str "tpc_vote")) σ') :
    PCc O c (.st (.ref f_Transaction_commit.addr)) [.ref t] [] [] ρ σ Q X := by
  refine PCc.goP (e := f_Transaction_commit) (bv := [.ref t]) S.ok (F_Transaction_commit S) (by omega) (Nat.le_of_ble_eq_true rfl) (Nat.le_of_ble_eq_true rfl) (Nat.le_of_ble_eq_true rfl) rfl ?_
  repeat kpc_signs
  refine PCc.pc (before_commit S (by show 2 ≤ c.D - 1; omega) (by exact hh) ht h0 z I XC hI keep (fun f as kw r σ c' ρ' e1 e2 e3 => step f as kw r σ c' ρ' (by rw [e1]; show c.D - 1 - 2 = _; omega) e2 e3) (fun σ₀ hI₀ => ?_) fun x σ' hb hx => ?_)
  · obtain ⟨rows, Y, zr⟩ := after σ₀ hI₀
    obtain ⟨b1, b2, b3, b4, b5, b6, b7, b8, b9, b10, b11, b12, b13, b14, b15⟩ := A.all
    have kb := keep _ _ hI₀
    simp only [List.mem_cons, not_or, List.not_mem_nil, not_false_eq_true, and_true, List.nodup_cons, List.nodup_nil] at hsc hdl hlb
    obtain ⟨⟨sc1, sc2⟩, sc3⟩ := hsc
    have fr : ∀ {n : N} {o x}, σ₀ n = some o → σ₀ x = Option.none → n ≠ x := fun {n o x} e1 e2 e => by rw [e, e2] at e1; cases e1
    have ni : ∀ {n : N} {C ns vs} {l : List (V N)} {x}, σ₀ n = some (.inst C ns vs) → σ₀ x = some (.list l) → n ≠ x := fun {n C ns vs l x} e1 e2 e => by rw [e, e2] at e1; cases e1
    have nb : ∀ {n : N} {C ns vs}, σ₀ n = some (.inst C ns vs) → n ≠ bc := fun {n C ns vs} e1 => ni e1 kb
    have up : ∀ {n o}, σ₀ n = some o → n ≠ bc → (σ₀.set bc (.list [])) n = some o := fun {n o} e1 e2 => (Sto.set_ne e2).trans e1
    have wt : w ≠ t := fun e => by have := Y.gw; rw [e, Y.gt] at this; cases this
    have mt : m ≠ t := fun e => by have := Y.gm; rw [e, Y.gt] at this; cases this
    have t1 := up Y.gt (nb Y.gt)
    have w1 := up Y.gw (nb Y.gw)
    have m1 := up Y.gm (nb Y.gm)
    have d1 := up Y.gd hdl.2
    have l1 := up Y.gl hlb.2.1
    have r1 := up Y.g1 b6
    have a1 := up Y.g3 (Ne.symm b10)
    have ba1 := up Y.g4 (Ne.symm b11)
    have aa1 := up Y.g5 (Ne.symm b12)
    have none1 : ∀ {n}, σ₀ n = Option.none → (σ₀.set bc (.list [])) n = Option.none := fun {n} e => by
      rw [Sto.set_ne (fun e' => by rw [e', kb] at e; cases e)]; exact e
    have bps : bc ∉ ps := Y.gp.not_list kb
    have p1 : Ps (σ₀.set bc (.list [])) log ps R := fun p hpp => ⟨up (Y.gp p hpp).1 (fun e => bps (e ▸ hpp)), (Y.gp p hpp).2⟩
    repeat kpc_signs
    refine PCc.pc (ws_map S (by show 2 ≤ c.D - 1; omega) (by show c.hd.good = true; rw [hh]; rfl) w1 d1 ?_)
    repeat kpc_signs
    have up2 : ∀ {n o}, (σ₀.set bc (.list [])) n = some o → n ≠ t → ((σ₀.set bc (.list [])).set t (votedO (.st s_COMMITTING) (.ref w) (.ref m) ad ex ft res bc ac ba aa [])) n = some o := fun {n o} e1 e2 => (Sto.set_ne e2).trans e1
    have none2 : ∀ {n}, σ₀ n = Option.none → ((σ₀.set bc (.list [])).set t (votedO (.st s_COMMITTING) (.ref w) (.ref m) ad ex ft res bc ac ba aa [])) n = Option.none := fun {n} e => (Sto.set_ne (fun e' => by rw [e', Y.gt] at e; cases e)).trans (none1 e)
    have lt : log ≠ t := fun e => by have := Y.gl; rw [e, Y.gt] at this; cases this
    have dt : d ≠ t := fun e => by have := Y.gd; rw [e, Y.gt] at this; cases this
    have tps : t ∉ ps := fun hx => by have := (Y.gp t hx).1; rw [Y.gt] at this; cases this
    have p2 : Ps ((σ₀.set bc (.list [])).set t (votedO (.st s_COMMITTING) (.ref w) (.ref m) ad ex ft res bc ac ba aa [])) log ps R := fun p hpp => ⟨up2 (p1 p hpp).1 (fun e => tps (e ▸ hpp)), (Y.gp p hpp).2⟩
    have off2 : ∀ n, n ≠ t → n ≠ bc → ((σ₀.set bc (.list [])).set t (votedO (.st s_COMMITTING) (.ref w) (.ref m) ad ex ft res bc ac ba aa [])) n = σ₀ n := fun n e1 e2 => (Sto.set_ne e1).trans (Sto.set_ne e2)
    have mlog : m ≠ log := fun e => by have := Y.gm; rw [e, Y.gl] at this; cases this
    have wlog : w ≠ log := fun e => by have := Y.gw; rw [e, Y.gl] at this; cases this
    have mps : m ∉ ps := fun hx => by
      have := (Y.gp m hx).1; rw [Y.gm] at this; injection this with e; injection e with e _ _; exact absurd e (by decide)
    have wps : w ∉ ps := fun hx => by
      have := (Y.gp w hx).1; rw [Y.gw] at this; injection this with e; injection e with e _ _; exact absurd e (by decide)
    have lps : ∀ {n l}, σ₀ n = some (.list l) → n ∉ ps := fun {n l} e => Y.gp.not_list e
    refine AS.tryE (by simp) ?_
    repeat kpc_signs
    refine PCc.pc (commit_resources S (crm := crm) (srt := srt) (by show 5 ≤ c.D - 1; omega) (by exact hh) Sto.set_self (up2 w1 wt) (up2 d1 dt) (up2 r1 (Ne.symm b1)) (up2 l1 lt) p2 hn zr z2 hk (none2 Y.gs) (none2 Y.gc) sc1 hdl.1 hv (fun qs σ₃ q1 q2 q3 q4 q5 q6 q7 => ?_) fun good bad rest σ₃ q1 q2 q3 q4 q5 q6 q7 => ?_)
    · have keep3 : ∀ {n o}, σ₀ n = some o → n ≠ log → n ≠ t → n ≠ bc → n ∉ ps → σ₃ n = some o := fun {n o} e n1 n2 n3 n4 =>
        (q7 n n1 n2 (fr e Y.gs) n4).trans ((off2 n n2 n3).trans e)
      have w3 := keep3 Y.gw wlog wt (nb Y.gw) wps
      have d3 := keep3 Y.gd hdl.1 dt hdl.2 (lps Y.gd)
      have m3 := keep3 Y.gm mlog mt (nb Y.gm) mps
      have r3 := keep3 Y.g1 (Ne.symm hlb.1) (Ne.symm b1) b6 (lps Y.g1)
      have ac3 := keep3 Y.g3 (Ne.symm hlb.2.2.1) (Ne.symm b3) (Ne.symm b10) (lps Y.g3)
      have ba3 := keep3 Y.g4 (Ne.symm hlb.2.2.2.1) (Ne.symm b4) (Ne.symm b11) (lps Y.g4)
      have aa3 := keep3 Y.g5 (Ne.symm hlb.2.2.2.2) (Ne.symm b5) (Ne.symm b12) (lps Y.g5)
      have bc3 : σ₃ bc = some (.list []) := (q7 bc (Ne.symm hlb.2.1) (Ne.symm b2) (fr kb Y.gs) bps).trans ((Sto.set_ne (Ne.symm b2)).trans Sto.set_self)
      repeat kpc_signs
      have k4 : ∀ {n o x}, σ₃ n = some o → n ≠ t → (σ₃.set t x) n = some o := fun {n o x} e1 e2 => (Sto.set_ne e2).trans e1
      refine PCc.pc (ws_map S (by show 2 ≤ c.D - 1; omega) (by show c.hd.good = true; rw [hh]; rfl) (k4 w3 wt) (k4 d3 dt) ?_)
      repeat kpc_signs
      refine PCc.pc (after_commit0 S (by show 2 ≤ c.D - 1; omega) (vo := .lst (qs.map V.ref)) Sto.set_self (k4 ac3 (Ne.symm b3)) ?_)
      repeat kpc_signs
      refine PCc.pc (txn_free1 S (by show 3 ≤ c.D - 1; omega) (by exact hh) A (k4 m3 mt) (vo := .lst (qs.map V.ref)) Sto.set_self (k4 r3 (Ne.symm b1)) (k4 bc3 (Ne.symm b2)) (k4 ac3 (Ne.symm b3)) (k4 ba3 (Ne.symm b4)) (k4 aa3 (Ne.symm b5)) (by rw [List.length_map]; omega) (by simp) (by simp) (by simp) (by simp) fun σ₄ f0 f1 f2 f3 f4 f5 f6 f7 => ?_)
      repeat kpc_signs
      have f8 : ∀ n, n ∉ [m, t, res, bc, ac, ba, aa] → σ₄ n = σ₃ n := fun n hx => (f7 n hx).trans (Sto.set_ne (fun e => hx (by rw [e]; simp)))
      have li : ∀ {n}, n ∉ [m, t, res, bc, ac, ba, aa] ↔ (n ≠ m ∧ n ≠ t ∧ n ≠ res ∧ n ≠ bc ∧ n ≠ ac ∧ n ≠ ba ∧ n ≠ aa) := fun {n} => by simp
      refine hQ σ₀ rows qs σ₄ hI₀ Y q1 q2 q3 ?_ (fun p hpp => ?_) f0 f1 fun n hx hps => ?_
      · exact (f8 log (li.mpr ⟨Ne.symm mlog, lt, hlb⟩)).trans q4
      · refine ⟨(f8 p (li.mpr ?_)).trans (q5 p hpp).1, (q5 p hpp).2⟩
        exact ⟨fun e => mps (e ▸ hpp), fun e => tps (e ▸ hpp), fun e => lps Y.g1 (e ▸ hpp), fun e => bps (e ▸ hpp), fun e => lps Y.g3 (e ▸ hpp), fun e => lps Y.g4 (e ▸ hpp), fun e => lps Y.g5 (e ▸ hpp)⟩
      · simp only [List.mem_cons, not_or, List.not_mem_nil, not_false_eq_true, and_true] at hx
        obtain ⟨x1, x2, x3, x4, x5, x6, x7, x8, x9, x10, x11⟩ := hx
        exact (f8 n (li.mpr ⟨x3, x2, x4, x5, x6, x7, x8⟩)).trans ((q7 n x1 x2 x9 hps).trans (off2 n x2 x5))
    · have none3 : σ₃ sio = Option.none := by
        have e := q7 sio (Ne.symm (fr Y.gl Y.gi)) (Ne.symm (fr Y.gt Y.gi)) (Ne.symm sc2) (Ne.symm sc3) (fun hx => fr (Y.gp sio hx).1 Y.gi rfl)
        exact e.trans (none2 Y.gi)
      have keep3 : ∀ {n o}, σ₀ n = some o → n ≠ log → n ≠ t → n ≠ bc → n ∉ ps → σ₃ n = some o := fun {n o} e n1 n2 n3 n4 =>
        (q7 n n1 n2 (fr e Y.gs) (fr e Y.gc) n4).trans ((off2 n n2 n3).trans e)
      have ac3 := keep3 Y.g3 (Ne.symm hlb.2.2.1) (Ne.symm b3) (Ne.symm b10) (lps Y.g3)
      have bc3 : σ₃ bc = some (.list []) := (q7 bc (Ne.symm hlb.2.1) (Ne.symm b2) (fr kb Y.gs) (fr kb Y.gc) bps).trans ((Sto.set_ne (Ne.symm b2)).trans Sto.set_self)
      refine AH.all ?_
      show AX O _ _ _ _ _ _
      repeat kpc_signs
      refine PCc.pc (save_error S (sio := sio) (by show 2 ≤ c.D - 1; omega) q6 none3 fun σ₄ f0 f1 => ?_)
      repeat kpc_signs
      refine PCc.pc (after_commit0 S (by show 2 ≤ c.D - 1; omega) (vo := .lst (good.map V.ref)) f0 ((f1 ac (Ne.symm b3) (fr Y.g3 Y.gi)).trans ac3) ?_)
      repeat kpc_signs
      refine AS.reraise rfl ?_
      refine hX σ₀ rows good bad rest σ₄ hI₀ Y q1 q2 q3 ?_ (fun p hpp => ?_) f0 ((f1 bc (Ne.symm b2) (fr kb Y.gi)).trans bc3) fun n hx hps => ?_
      · exact (f1 log lt (fr Y.gl Y.gi)).trans q4
      · exact ⟨(f1 p (fun e => tps (e ▸ hpp)) (fr (Y.gp p hpp).1 Y.gi)).trans (q5 p hpp).1, (q5 p hpp).2⟩
      · simp only [List.mem_cons, not_or, List.not_mem_nil, not_false_eq_true, and_true] at hx
        obtain ⟨x1, x2, x3, x4, x5, x6⟩ := hx
        exact (f1 n x2 x6).trans ((q7 n x1 x2 x4 x5 hps).trans (off2 n x2 x3))
  · exact hXh _ _ hb hx
end
section
variable {N : Type} {O : Om} {c : Cx N} {ρ : Loc N} {σ : Sto N} {Q X : V N → Sto N → Prop}
variable {m w d t res bc ac ba aa log srt crm sio : N} {st syn man ad vo ex ft : V N} {ps : List N} {R : N → PR N} {rows : List (V N)}
theorem tm_commit (S : StL O) (hD : 2 ≤ c.D) (hm : σ m = some (tmO (.ref t) w)) (ht : σ t = some (txnO st syn man ad vo ex ft res bc ac ba aa)) (h : ∀ c' ρ', c'.D = c.D - 1 → c'.hd = c.hd → PCc O c' (.st (.ref f_Transaction_commit.addr)) [.ref t] [] [] ρ' σ Q X) : PCc O c (.st (.ref f_TransactionManager_commit.addr)) [.ref m] [] [] ρ σ Q X := by
  refine PCc.goP (e := f_TransactionManager_commit) (bv := [.ref m]) S.ok (F_TransactionManager_commit S) (by omega) (Nat.le_of_ble_eq_true rfl) (Nat.le_of_ble_eq_true rfl) (Nat.le_of_ble_eq_true rfl) rfl ?_
  repeat kpc_signs
  refine PCc.pc (tm_get S (by show 1 ≤ c.D - 1; omega) hm ?_)
  repeat kpc_signs
  exact PCc.pc (h _ _ rfl rfl)
theorem tm_abort (S : StL O) (hD : 2 ≤ c.D) (hm : σ m = some (tmO (.ref t) w)) (ht : σ t = some (txnO st syn man ad vo ex ft res bc ac ba aa)) (h : ∀ c' ρ', c'.D = c.D - 1 → c'.hd = c.hd → PCc O c' (.st (.ref f_Transaction_abort.addr)) [.ref t] [] [] ρ' σ Q X) : PCc O c (.st (.ref f_TransactionManager_abort.addr)) [.ref m] [] [] ρ σ Q X := by
  refine PCc.goP (e := f_TransactionManager_abort) (bv := [.ref m]) S.ok (F_TransactionManager_abort S) (by omega) (Nat.le_of_ble_eq_true rfl) (Nat.le_of_ble_eq_true rfl) (Nat.le_of_ble_eq_true rfl) rfl ?_
  repeat kpc_signs
  refine PCc.pc (tm_get S (by show 1 ≤ c.D - 1; omega) hm ?_)
  repeat kpc_signs
  exact PCc.pc (h _ _ rfl rfl)
/-- nested functions -/
theorem row_want (P : Params) : ∃ r, codeOfRows (rowsA P) n_law_locals__law_want.key = some r ∧ codeOfRows (rowsL P) n_law_locals__law_want.key = some r ∧ rowB r n_law_locals__law_want.ns = true ∧ r.scope.names = [(("i" : Str), .local), (("e" : Str), .local), (("centers" : Str), .free), (("ends" : Str), .free), (("Refusal" : Str), .globalImplicit), (("DoomedTransaction" : Str), .globalImplicit)] :=
  ⟨(codeOfRows (rowsA P) n_law_locals__law_want.key).get (by kernel_rfl), by kernel_rfl, by kernel_rfl, by kernel_rfl, by kernel_rfl⟩
theorem row_need (P : Params) : ∃ r, codeOfRows (rowsA P) n_law_locals__law_need.key = some r ∧ codeOfRows (rowsL P) n_law_locals__law_need.key = some r ∧ rowB r n_law_locals__law_need.ns = true ∧ r.scope.names = [(("args" : Str), .local), (("kws" : Str), .local), (("root" : Str), .local), (("_law_want" : Str), .free), (("Refusal" : Str), .globalImplicit)] :=
  ⟨(codeOfRows (rowsA P) n_law_locals__law_need.key).get (by kernel_rfl), by kernel_rfl, by kernel_rfl, by kernel_rfl, by kernel_rfl⟩
theorem want_go (S : StL O) (hD : 1 ≤ c.D) {cc ce : N} {i : V N} (h : ∀ c' : Cx N, c'.κ 2 = some (.cel cc) → c'.κ 3 = some (.cel ce) → c'.D = c.D - 1 → c'.hd = c.hd → AX O c' m_law_locals__law_want (fun k => if k = 0 then some i else Option.none) σ (fun af _ σ => Q af.val σ) (fun v _ σ => X v σ)) :
    PCc O c (.clo 40173572 [.cel ce, .cel cc]) [i] [] [] ρ σ Q X := by
  obtain ⟨r, r1, r2, r3, r4⟩ := row_want O.w.params
  have Nk := nest_ok S.ok (by rw [S.K]; exact gl_ok _) (S.all (N := N) |>.2 n_law_locals__law_want (.head _)) S.code r1 r2 r3
  refine PCc.clo (nm := fun _ => Option.none) (D' := c.D - 1) (ns := ["i"]) (b := .inl m_law_locals__law_want) S.ok Nk.code Nk.row Nk.cb (by omega) (by kernel_rfl) (by rw [r4]; exact .nil) (fun n hn => by rw [r4] at hn; cases hn) ?_
  rw [cells_none]
  have e : locOf r.scope (bindP ["i"] [] [i] (([] : List Str).zip [])) = fun k => if k = 0 then some i else Option.none := by
    funext k
    unfold locOf
    rw [r4]
    match k with
    | 0 => kernel_rfl
    | 1 => kernel_rfl
    | 2 => rfl
    | 3 => rfl
    | 4 => rfl
    | 5 => rfl
    | k + 6 => rfl
  rw [e]
  refine h _ ?_ ?_ rfl rfl
  · dsimp only
    unfold kapOf; rw [r4]; kernel_rfl
  · dsimp only
    unfold kapOf; rw [r4]; kernel_rfl
theorem need_go (S : StL O) (hD : 1 ≤ c.D) {cw : N} {a k : V N} (h : ∀ c' : Cx N, c'.κ 3 = some (.cel cw) → c'.D = c.D - 1 → c'.hd = c.hd → AX O c' m_law_locals__law_need (fun j => if j = 0 then some a else if j = 1 then some k else Option.none) σ (fun af _ σ => Q af.val σ) (fun v _ σ => X v σ)) :
    PCc O c (.clo 41025540 [.cel cw]) [a, k] [] [] ρ σ Q X := by
  obtain ⟨r, r1, r2, r3, r4⟩ := row_need O.w.params
  have Nk := nest_ok S.ok (by rw [S.K]; exact gl_ok _) (S.all (N := N) |>.2 n_law_locals__law_need (.tail _ (.head _))) S.code r1 r2 r3
  refine PCc.clo (nm := fun _ => Option.none) (D' := c.D - 1) (ns := ["args", "kws"]) (b := .inl m_law_locals__law_need) S.ok Nk.code Nk.row Nk.cb (by omega) (by kernel_rfl) (by rw [r4]; exact .nil) (fun n hn => by rw [r4] at hn; cases hn) ?_
  rw [cells_none]
  have e : locOf r.scope (bindP ["args", "kws"] [] [a, k] (([] : List Str).zip [])) = fun j => if j = 0 then some a else if j = 1 then some k else Option.none := by
    funext j
    unfold locOf
    rw [r4]
    match j with
    | 0 => kernel_rfl
    | 1 => kernel_rfl
    | 2 => kernel_rfl
    | 3 => rfl
    | 4 => rfl
    | k + 5 => rfl
  rw [e]
  refine h _ ?_ rfl rfl
  dsimp only
  unfold kapOf; rw [r4]; kernel_rfl
end
inductive N5 where | g (k : Nat) | o (k i : Nat)
structure Plan where
  needs : Nat → List Nat
  kind : Nat → Int
  roots : Nat → Int
  asked : Nat → List Nat
structure Plan.Ok (P : Plan) : Prop where
  lt : ∀ i, i < 6 → ∀ j ∈ P.needs i, j < i
  len : ∀ i, i < 6 → (P.needs i).length ≤ 6
  le : ∀ i, i < 6 → P.roots i ≤ (i : Int)
  kinds : ∀ i, i < 6 → P.kind i = 0 ∨ P.kind i = 1 ∨ P.kind i = 2
  doomed : ∀ i, i < 6 → P.kind i = 2 → P.roots i = i ∧ P.asked i = []
  failed : ∀ i, i < 6 → P.kind i ≠ 2 → ∀ pre f post, P.needs i = pre ++ f :: post → (∀ j ∈ pre, P.roots j < 0) → 0 ≤ P.roots f → P.roots i = P.roots f ∧ P.asked i = pre ++ [f]
  ok : ∀ i, i < 6 → P.kind i ≠ 2 → (∀ j ∈ P.needs i, P.roots j < 0) → P.asked i = P.needs i ∧ P.roots i = if P.kind i = 1 then (i : Int) else -1
abbrev whoV (i k : Nat) : V N5 := .tup [.int i, .int k]
def rw2 (what : Str) (i : Nat) : List (V N5) := [rowV what (whoV i 1), rowV what (whoV i 0)]
def rows3 (i : Nat) : List (V N5) := rw2 "tpc_begin" i ++ rw2 "commit" i ++ rw2 "tpc_vote" i
def rowsAb (i : Nat) : List (V N5) := [rowV "abort" (whoV i 0), rowV "abort" (whoV i 1)]
def rowsBad (i : Nat) : List (V N5) := rows3 i ++ [rowV "abort" (whoV i 0), rowV "tpc_abort" (whoV i 1), rowV "tpc_abort" (whoV i 0)]
def Plan.rows (P : Plan) (i : Nat) : List (V N5) := if P.roots i < 0 then rows3 i ++ rw2 "tpc_finish" i else (if P.kind i = 1 ∧ P.roots i = i then rowsBad i else []) ++ rowsAb i
theorem rows_len (P : Plan) (i : Nat) : (P.rows i).length ≤ 20 := by unfold Plan.rows rowsBad rowsAb rows3 rw2; split <;> (try split) <;> simp
def kkey (k : Nat) : Str := if k = 0 then "k1" else "k0"
def Plan.pks (P : Plan) (i k : Nat) : List Str := if P.kind i = 1 ∧ k = 0 then ["tpc_vote"] else []
def Plan.pvs (P : Plan) (i k : Nat) : List (V N5) := if P.kind i = 1 ∧ k = 0 then [.int 1] else []
def Plan.pr (P : Plan) (i k : Nat) : PR N5 := ⟨whoV i k, .str (kkey k), P.pks i k, P.pvs i k, .int 0, .int (7 + i), .none⟩
def Plan.worth (P : Plan) (i : Nat) : Int := if P.roots i < 0 then 7 + i else 0
def Plan.prF (P : Plan) (i k : Nat) : PR N5 := { P.pr i k with kept := .int (P.worth i), value := .int (P.worth i), ready := .none }
abbrev needV : V N5 := .clo 41025540 [.cel (.g 2)]
abbrev wantV : V N5 := .clo 40173572 [.cel (.g 3), .cel (.g 4)]
abbrev Plan.hooks (P : Plan) (i : Nat) : List (HK N5) := (P.needs i).map fun j : Nat => (needV, [.int (j : Int)], .dct [] [])
structure Base (σ : Sto N5) (i : Nat) : Prop where
  w : σ (.o 1 i) = some (wsO (.o 2 i))
  d : σ (.o 2 i) = some (.list [])
structure Fresh (P : Plan) (σ : Sto N5) (i : Nat) : Prop extends Base σ i where
  m : σ (.o 0 i) = some (tmO (.ref (.o 3 i)) (.o 1 i))
  t : σ (.o 3 i) = some (votedO (.st (if P.kind i = 2 then s_DOOMED else s_ACTIVE)) (.ref (.o 1 i)) (.ref (.o 0 i)) (.dct [] []) (.dct [] []) .none (.o 4 i) (.o 5 i) (.o 6 i) (.o 7 i) (.o 8 i) [])
  res : σ (.o 4 i) = some (.list [.ref (.o 12 i), .ref (.o 13 i)])
  bc : σ (.o 5 i) = some (.list ((P.hooks i).map HK.v))
  ac : σ (.o 6 i) = some (.list [])
  ba : σ (.o 7 i) = some (.list [])
  aa : σ (.o 8 i) = some (.list [])
  p0 : σ (.o 12 i) = some ((P.pr i 0).obj (.g 0))
  p1 : σ (.o 13 i) = some ((P.pr i 1).obj (.g 0))
  no : ∀ k, 9 ≤ k → k ≠ 12 → k ≠ 13 → σ (.o k i) = Option.none
structure Done (P : Plan) (σ : Sto N5) (i : Nat) : Prop extends Base σ i where
  m : σ (.o 0 i) = some (tmO .none (.o 1 i))
  t : ∃ ns vs, σ (.o 3 i) = some (.inst C_Transaction ns vs)
  p0 : σ (.o 12 i) = some ((P.prF i 0).obj (.g 0))
  p1 : σ (.o 13 i) = some ((P.prF i 1).obj (.g 0))
  no : ∀ k, 14 ≤ k → σ (.o k i) = Option.none
theorem Fresh.same {P : Plan} {σ σ' : Sto N5} {i : Nat} (h : Fresh P σ i) (e : ∀ k, σ' (.o k i) = σ (.o k i)) : Fresh P σ' i :=
  ⟨⟨(e _).trans h.w, (e _).trans h.d⟩, (e _).trans h.m, (e _).trans h.t, (e _).trans h.res, (e _).trans h.bc, (e _).trans h.ac, (e _).trans h.ba, (e _).trans h.aa, (e _).trans h.p0, (e _).trans h.p1, fun k a b d => (e _).trans (h.no k a b d)⟩
theorem Done.same {P : Plan} {σ σ' : Sto N5} {i : Nat} (h : Done P σ i) (e : ∀ k, σ' (.o k i) = σ (.o k i)) : Done P σ' i :=
  ⟨⟨(e _).trans h.w, (e _).trans h.d⟩, (e _).trans h.m, let ⟨a, b, q⟩ := h.t; ⟨a, b, (e _).trans q⟩, (e _).trans h.p0, (e _).trans h.p1, fun k a => (e _).trans (h.no k a)⟩
section
variable {K : Type} [DecidableEq K] {N : Type}
theorem dget_put {k j : K} {u : V N} : ∀ {ks : List K} {vs : List (V N)}, ks.length = vs.length → dget (dputK ks k) (dputV ks vs k u) j = if j = k then some u else dget ks vs j
  | [], [], _ => by
    by_cases e : j = k
    · subst e; simp [dputK, dputV, dget]
    · have : k ≠ j := fun h => e h.symm
      simp [dputK, dputV, dget, e, this]
  | a :: ks, v :: vs, hl => by
    have ih := dget_put (k := k) (j := j) (u := u) (ks := ks) (vs := vs) (by simpa using hl)
    by_cases ea : a = k
    · subst ea
      by_cases ej : j = a
      · subst ej; simp [dputK, dputV, dget]
      · have : a ≠ j := fun h => ej h.symm
        simp [dputK, dputV, dget, ej, this]
    · have e1 : dputK (a :: ks) k = a :: dputK ks k := by
        unfold dputK
        by_cases h : k ∈ ks
        · simp [h]
        · have : k ≠ a := fun h => ea h.symm
          simp [h, this]
      rw [e1]
      unfold dputV
      simp only [ea, if_false]
      by_cases ej : j = a
      · subst ej; simp [dget, ea]
      · have : a ≠ j := fun h => ej h.symm
        simp only [dget, this, if_false]
        exact ih
theorem dputK_nodup {k : K} {ks : List K} (h : ks.Nodup) : (dputK ks k).Nodup := by
  unfold dputK
  split
  · exact h
  · rename_i hk
    rw [List.nodup_append]
    exact ⟨h, by simp, fun a ha b hb e => by rw [List.mem_singleton.mp hb] at e; exact hk (e ▸ ha)⟩
theorem dput_len {k : K} {u : V N} : ∀ {ks : List K} {vs : List (V N)}, ks.length = vs.length → (dputK ks k).length = (dputV ks vs k u).length
  | [], [], _ => by simp [dputK, dputV]
  | a :: ks, v :: vs, hl => by
    have ih := dput_len (k := k) (u := u) (ks := ks) (vs := vs) (by simpa using hl)
    by_cases ea : a = k
    · subst ea; simp [dputK, dputV]; simpa using hl
    · have e1 : dputK (a :: ks) k = a :: dputK ks k := by
        unfold dputK
        by_cases h : k ∈ ks
        · simp [h]
        · have : k ≠ a := fun h => ea h.symm
          simp [h, this]
      rw [e1]
      unfold dputV
      simp only [ea, if_false, List.length_cons]
      omega
theorem dget_none {k : K} : ∀ {ks : List K} {vs : List (V N)}, ks.length = vs.length → (dget ks vs k = Option.none ↔ k ∉ ks)
  | [], [], _ => by simp [dget]
  | a :: ks, v :: vs, hl => by
    have ih := dget_none (k := k) (ks := ks) (vs := vs) (by simpa using hl)
    by_cases ea : a = k
    · subst ea; simp [dget]
    · have : k ≠ a := fun h => ea h.symm
      simp [dget, ea, this, ih]
end
theorem perm2 {α : Type} {a b : α} {qs : List α} (h : qs.Perm [a, b]) : qs = [a, b] ∨ qs = [b, a] := by
  match qs, h with
  | [], h => have := h.length_eq; simp at this
  | [x], h => have := h.length_eq; simp at this
  | x :: y :: z :: r, h => have := h.length_eq; simp at this
  | [x, y], h =>
    have hx : x ∈ [a, b] := h.mem_iff.mp (by simp)
    simp only [List.mem_cons, List.not_mem_nil, or_false] at hx
    rcases hx with rfl | rfl
    · left
      have := List.perm_singleton.mp ((List.perm_cons _).mp h)
      simpa using this
    · right
      have h2 : [x, y].Perm [x, a] := h.trans (List.Perm.swap _ _ _)
      have := List.perm_singleton.mp ((List.perm_cons _).mp h2)
      simpa using this
theorem nodup_lt {n : Nat} {l : List Nat} (h : l.Nodup) (hl : ∀ x ∈ l, x < n) : l.length ≤ n := by
  induction n generalizing l with
  | zero => cases l with | nil => simp | cons a r => exact absurd (hl a (.head _)) (by omega)
  | succ n ih =>
    by_cases hn : n ∈ l
    · obtain ⟨a, b, rfl⟩ := List.append_of_mem hn
      have p : (a ++ n :: b).Perm (n :: (a ++ b)) := List.perm_middle
      have h2 := p.nodup_iff.mp h
      rw [List.nodup_cons] at h2
      have := ih h2.2 fun x hx => by
        have : x < n + 1 := hl x (p.mem_iff.mpr (.tail _ hx))
        have : x ≠ n := fun e => h2.1 (e ▸ hx)
        omega
      rw [p.length_eq, List.length_cons]; omega
    · have := ih h fun x hx => by
        have h1 := hl x hx
        have : x ≠ n := fun e => hn (e ▸ hx)
        omega
      omega
structure EndsOk (P : Plan) (σ : Sto N5) (done busy : List Nat) (ks : List Int) (vs : List (V N5)) : Prop where
  e : σ (.g 1) = some (.dict (ks.map V.int) vs)
  nd : ks.Nodup
  len : ks.length = vs.length
  ran : ∀ k ∈ ks, ∃ j, j < 6 ∧ k = ((j : Nat) : Int)
  eD : ∀ i ∈ done, dget ks vs (i : Int) = some (.int (P.roots i))
  eB : ∀ i ∈ busy, dget ks vs (i : Int) = some (.int (-1))
  eN : ∀ i, i < 6 → i ∉ done → i ∉ busy → dget ks vs (i : Int) = Option.none
theorem EndsOk.short {P : Plan} {σ : Sto N5} {done busy : List Nat} {ks : List Int} {vs : List (V N5)} (h : EndsOk P σ done busy ks vs) : ks.length ≤ 6 := by
  have : (ks.map Int.toNat).length ≤ 6 := by
    refine nodup_lt ?_ fun x hx => ?_
    · rw [List.Nodup, List.pairwise_map]
      refine List.Pairwise.imp_of_mem (fun {a b} ha hb hne e => hne ?_) h.nd
      obtain ⟨j, _, rfl⟩ := h.ran a ha
      obtain ⟨k, _, rfl⟩ := h.ran b hb
      simp at e
      rw [e]
    · obtain ⟨k, hk, rfl⟩ := List.mem_map.mp hx
      obtain ⟨j, hj, rfl⟩ := h.ran k hk
      simpa using hj
  simpa using this
structure World (P : Plan) (σR σ : Sto N5) (done busy : List Nat) : Prop where
  log : σ (.g 0) = some (.list (done.flatMap P.rows))
  ends : ∃ ks vs, EndsOk P σ done busy ks vs
  dnd : done.Nodup
  dlt : ∀ i ∈ done, i < 6
  apart : ∀ i ∈ done, i ∉ busy
  blt : ∀ i ∈ busy, i < 6
  fresh : ∀ i, i < 6 → i ∉ done → Fresh P σ i
  fin : ∀ i ∈ done, Done P σ i
  asked : ∀ i ∈ done, ∀ j ∈ P.asked i, ∃ a b, done = a ++ i :: b ∧ j ∈ a
  rest : ∀ k, 2 ≤ k → σ (.g k) = σR (.g k)
theorem World.rows_len {P : Plan} {σR σ : Sto N5} {done busy : List Nat} (h : World P σR σ done busy) : (done.flatMap P.rows).length ≤ 120 := by
  have hl := nodup_lt h.dnd h.dlt
  have : ∀ l : List Nat, (l.flatMap P.rows).length ≤ 20 * l.length := fun l => by
    induction l with
    | nil => simp
    | cons a l ih =>
      rw [List.flatMap_cons, List.length_append, List.length_cons]
      have := Mine.rows_len P a
      omega
  have := this done
  omega
def Plan.re (P : Plan) : N5 → PR N5
  | .o 12 i => P.pr i 0
  | .o _ i => P.pr i 1
  | .g _ => P.pr 0 0
theorem pr_ok (P : Plan) (i k : Nat) : (P.pr i k).Ok := ⟨rfl, rfl, rfl, rfl, by show (P.pks i k).Nodup; unfold Plan.pks; split <;> simp, fun what hw => by
  show (dget (P.pks i k) (P.pvs i k) what).getD (.int 0) = .int 0
  unfold Plan.pks Plan.pvs
  split
  · have : (("tpc_vote" : Str) = what) = False := by simp [Ne.symm hw]
    simp [dget, this]
  · rfl⟩
structure But (P : Plan) (σR σ : Sto N5) (done busy : List Nat) (i : Nat) : Prop where
  dnd : done.Nodup
  dlt : ∀ j ∈ done, j < 6
  apart : ∀ j ∈ done, j ∉ busy ∧ j ≠ i
  blt : ∀ j ∈ busy, j < 6
  fresh : ∀ j, j < 6 → j ∉ done → j ≠ i → Fresh P σ j
  fin : ∀ j ∈ done, Done P σ j
  asked : ∀ k ∈ done, ∀ j ∈ P.asked k, ∃ a b, done = a ++ k :: b ∧ j ∈ a
  rest : ∀ k, 2 ≤ k → σ (.g k) = σR (.g k)
theorem But.same {P : Plan} {σR σ σ' : Sto N5} {done busy : List Nat} {i : Nat} (h : But P σR σ done busy i) (e1 : ∀ k j, j ≠ i → σ' (.o k j) = σ (.o k j)) (e2 : ∀ k, 2 ≤ k → σ' (.g k) = σ (.g k)) : But P σR σ' done busy i :=
  ⟨h.dnd, h.dlt, h.apart, h.blt, fun j a b d => (h.fresh j a b d).same fun k => e1 k j d, fun j a => (h.fin j a).same fun k => e1 k j (h.apart j a).2, h.asked, fun k a => (e2 k a).trans (h.rest k a)⟩
theorem EndsOk.same {P : Plan} {σ σ' : Sto N5} {done busy : List Nat} {ks : List Int} {vs : List (V N5)} (h : EndsOk P σ done busy ks vs) (e : σ' (.g 1) = σ (.g 1)) : EndsOk P σ' done busy ks vs := ⟨e.trans h.e, h.nd, h.len, h.ran, h.eD, h.eB, h.eN⟩
theorem World.but {P : Plan} {σR σ : Sto N5} {done busy : List Nat} {i : Nat} (h : World P σR σ done busy) (hi : i ∉ done) : But P σR σ done busy i :=
  ⟨h.dnd, h.dlt, fun j a => ⟨h.apart j a, fun e => hi (e ▸ a)⟩, h.blt, fun j a b _ => h.fresh j a b, h.fin, h.asked, h.rest⟩
theorem World.but' {P : Plan} {σR σ : Sto N5} {done busy : List Nat} {i : Nat} (h : World P σR σ done (i :: busy)) (hi : i ∉ done) : But P σR σ done busy i :=
  let b := h.but hi
  ⟨b.dnd, b.dlt, fun j a => ⟨fun e => (b.apart j a).1 (.tail _ e), (b.apart j a).2⟩, fun j a => b.blt j (.tail _ a), b.fresh, b.fin, b.asked, b.rest⟩
theorem But.world {P : Plan} {σR σ : Sto N5} {done busy : List Nat} {i : Nat} (h : But P σR σ done busy i) (hi : i < 6) (hb : i ∉ busy) (D : Done P σ i) (hl : σ (.g 0) = some (.list (done.flatMap P.rows ++ P.rows i))) (E : ∃ ks vs, EndsOk P σ (done ++ [i]) busy ks vs) (ha : ∀ j ∈ P.asked i, j ∈ done) : World P σR σ (done ++ [i]) busy where
  log := by rw [hl, List.flatMap_append]; simp
  ends := E
  dnd := by
    rw [List.nodup_append]
    exact ⟨h.dnd, by simp, fun a x b y e => by rw [List.mem_singleton.mp y] at e; exact (h.apart a x).2 e⟩
  dlt := fun j hj => by
    rcases List.mem_append.mp hj with q | q
    · exact h.dlt j q
    · rw [List.mem_singleton.mp q]; exact hi
  apart := fun j hj => by
    rcases List.mem_append.mp hj with q | q
    · exact (h.apart j q).1
    · rw [List.mem_singleton.mp q]; exact hb
  blt := h.blt
  fresh := fun j a b => h.fresh j a (fun q => b (List.mem_append_left _ q)) fun e => b (by rw [e]; simp)
  fin := fun j hj => by
    rcases List.mem_append.mp hj with q | q
    · exact h.fin j q
    · rw [List.mem_singleton.mp q]; exact D
  asked := fun k hk j hj => by
    rcases List.mem_append.mp hk with q | q
    · obtain ⟨a, b, e1, e2⟩ := h.asked k q j hj
      exact ⟨a, b ++ [i], by rw [e1]; simp, e2⟩
    · rw [List.mem_singleton.mp q] at hj ⊢
      exact ⟨done, [], rfl, ha j hj⟩
  rest := h.rest
theorem EndsOk.put {P : Plan} {σ : Sto N5} {done busy : List Nat} {ks : List Int} {vs : List (V N5)} {i : Nat} (h : EndsOk P σ done busy ks vs) (hi : i < 6) (h1 : i ∉ done) (h2 : i ∉ busy) :
    EndsOk P (σ.set (.g 1) (.dict ((dputK ks (i : Int)).map V.int) (dputV ks vs (i : Int) (.int (-1))))) done (i :: busy) (dputK ks (i : Int)) (dputV ks vs (i : Int) (.int (-1))) where
  e := Sto.set_self
  nd := dputK_nodup h.nd
  len := dput_len h.len
  ran := fun k hk => by
    unfold dputK at hk
    split at hk
    · exact h.ran k hk
    · rcases List.mem_append.mp hk with q | q
      · exact h.ran k q
      · exact ⟨i, hi, List.mem_singleton.mp q⟩
  eD := fun j hj => by rw [dget_put h.len, if_neg (fun e => h1 (by have : j = i := by omega
                                                                   exact this ▸ hj))]; exact h.eD j hj
  eB := fun j hj => by
    rw [dget_put h.len]
    split
    · rfl
    · rename_i hne
      rcases List.mem_cons.mp hj with rfl | q
      · exact absurd rfl hne
      · exact h.eB j q
  eN := fun j a b d => by
    rw [dget_put h.len, if_neg (fun e => d (by have : j = i := by omega
                                               rw [this]; exact .head _))]
    exact h.eN j a b fun q => d (.tail _ q)
theorem EndsOk.fin {P : Plan} {σ : Sto N5} {done busy : List Nat} {ks : List Int} {vs : List (V N5)} {i : Nat} (h : EndsOk P σ done (i :: busy) ks vs) (h1 : i ∉ done) (h2 : i ∉ busy) (hi : i < 6) :
    EndsOk P (σ.set (.g 1) (.dict ((dputK ks (i : Int)).map V.int) (dputV ks vs (i : Int) (.int (P.roots i))))) (done ++ [i]) busy (dputK ks (i : Int)) (dputV ks vs (i : Int) (.int (P.roots i))) where
  e := Sto.set_self
  nd := dputK_nodup h.nd
  len := dput_len h.len
  ran := fun k hk => by
    unfold dputK at hk
    split at hk
    · exact h.ran k hk
    · rcases List.mem_append.mp hk with q | q
      · exact h.ran k q
      · exact ⟨i, hi, List.mem_singleton.mp q⟩
  eD := fun j hj => by
    rw [dget_put h.len]
    split
    · rename_i e
      have : j = i := by omega
      rw [this]
    · rename_i hne
      rcases List.mem_append.mp hj with q | q
      · exact h.eD j q
      · exact absurd (by rw [List.mem_singleton.mp q]) hne
  eB := fun j hj => by
    rw [dget_put h.len, if_neg (fun e => h2 (by have : j = i := by omega
                                                exact this ▸ hj))]
    exact h.eB j (.tail _ hj)
  eN := fun j a b d => by
    have hji : j ≠ i := fun e => b (by rw [e]; simp)
    rw [dget_put h.len, if_neg (by omega)]
    exact h.eN j a (fun q => b (List.mem_append_left _ q)) fun q => by
      rcases List.mem_cons.mp q with e | q
      · exact hji e
      · exact d q
theorem EndsOk.fin0 {P : Plan} {σ : Sto N5} {done busy : List Nat} {ks : List Int} {vs : List (V N5)} {i : Nat} (h : EndsOk P σ done (i :: busy) ks vs) (h1 : i ∉ done) (h2 : i ∉ busy) (hr : P.roots i = -1) : EndsOk P σ (done ++ [i]) busy ks vs where
  e := h.e
  nd := h.nd
  len := h.len
  ran := h.ran
  eD := fun j hj => by
    rcases List.mem_append.mp hj with q | q
    · exact h.eD j q
    · rw [List.mem_singleton.mp q, hr]; exact h.eB i (.head _)
  eB := fun j hj => h.eB j (.tail _ hj)
  eN := fun j a b d => h.eN j a (fun q => b (List.mem_append_left _ q)) fun q => by
      rcases List.mem_cons.mp q with e | q
      · exact b (by rw [e]; simp)
      · exact d q
/-- a transaction tried, not yet aborted -/
structure Half (P : Plan) (σ : Sto N5) (i : Nat) (R : N5 → PR N5) (rows : List (V N5)) : Prop extends Base σ i where
  m : σ (.o 0 i) = some (tmO (.ref (.o 3 i)) (.o 1 i))
  t : ∃ st ad vo ex ft, σ (.o 3 i) = some (txnO st (.ref (.o 1 i)) (.ref (.o 0 i)) ad vo ex ft (.o 4 i) (.o 5 i) (.o 6 i) (.o 7 i) (.o 8 i))
  res : σ (.o 4 i) = some (.list [.ref (.o 12 i), .ref (.o 13 i)])
  bc : ∃ l, σ (.o 5 i) = some (.list l) ∧ l.length ≤ 6
  ac : σ (.o 6 i) = some (.list [])
  ba : σ (.o 7 i) = some (.list [])
  aa : σ (.o 8 i) = some (.list [])
  ps : Ps σ (.g 0) [.o 12 i, .o 13 i] R
  no : ∀ k, 14 ≤ k → σ (.o k i) = Option.none
  lg : σ (.g 0) = some (.list rows)
section
variable {O : Om} {c : Cx N5} {ρ : Loc N5} {σ σR : Sto N5} {Q X : V N5 → Sto N5 → Prop} {P : Plan} {done busy : List Nat} {i : Nat}
theorem abort_center (S : StL O) (hD : 6 ≤ c.D) (hh : c.hd = .no) {R : N5 → PR N5} {rows : List (V N5)} (B : But P σR σ done busy i) (H : Half P σ i R rows) (hz : rows.length ≤ 1000) (w0 : (R (.o 12 i)).who = whoV i 0) (w1 : (R (.o 13 i)).who = whoV i 1) (f0 : (R (.o 12 i)).back = P.prF i 0) (f1 : (R (.o 13 i)).back = P.prF i 1)
    (h : ∀ σ', But P σR σ' done busy i → Done P σ' i → σ' (.g 0) = some (.list (rows ++ rowsAb i)) → σ' (.g 1) = σ (.g 1) → Q .none σ') : PCc O c (.st (.ref f_TransactionManager_abort.addr)) [.ref (.o 0 i)] [] [] ρ σ Q X := by
  obtain ⟨st, ad, vo, ex, ft, ht⟩ := H.t
  obtain ⟨l, hb, hbl⟩ := H.bc
  refine tm_abort S (by omega) H.m ht fun c' ρ' e1 e2 => ?_
  refine txn_abort_ok S (by omega) (by rw [e2]; exact hh) ⟨by simp⟩ ht H.m H.w H.d H.lg H.ps (by simp) H.res hb H.ac H.ba H.aa (by simp) (by omega) (by simp) (by omega) (by simp) fun σ' q0 q1 q2 q3 q4 q5 q6 q7 q8 q9 => ?_
  have k1 : ∀ k j, j ≠ i → σ' (.o k j) = σ (.o k j) := fun k j hj => q9 _ (by simp [hj]) (by simp [hj])
  have k2 : ∀ k, 1 ≤ k → σ' (.g k) = σ (.g k) := fun k hk => q9 _ (by simp; omega) (by simp)
  refine h σ' (B.same k1 fun k hk => k2 k (by omega)) ⟨⟨?_, ?_⟩, q0, ⟨_, _, q1⟩, ?_, ?_, fun k hk => ?_⟩ ?_ (k2 1 (by omega))
  · exact (q9 _ (by simp) (by simp)).trans H.w
  · exact (q9 _ (by simp) (by simp)).trans H.d
  · exact (q8 (.o 12 i) (by simp)).1.trans (congrArg (fun r => some (PR.obj (.g 0) r)) f0)
  · exact (q8 (.o 13 i) (by simp)).1.trans (congrArg (fun r => some (PR.obj (.g 0) r)) f1)
  · exact (q9 _ (by simp; omega) (by simp; omega)).trans (H.no k hk)
  · rw [q7]; simp only [List.map_cons, List.map_nil, w0, w1]; rfl
end
section
variable {O : Om} {c : Cx N5} {ρ : Loc N5} {σ σR : Sto N5} {Q X : V N5 → Sto N5 → Prop} {P : Plan} {done busy : List Nat} {i : Nat}
def kkN : N5 → Str
  | .o 12 _ => "k1"
  | _ => "k0"
theorem says_vote (P : Plan) (i k : Nat) : (P.pr i k).says "tpc_vote" (if P.kind i = 1 ∧ k = 0 then 1 else 0) := by
  show (dget (P.pks i k) (P.pvs i k) ("tpc_vote" : Str)).getD (.int 0) = _
  unfold Plan.pks Plan.pvs
  split
  · simp [dget]
  · rfl
theorem sorted_pair {qs : List N5} {i : Nat} (hp : qs.Perm [.o 12 i, .o 13 i]) (hs : SortedBy kkN qs) : qs = [.o 13 i, .o 12 i] := by
  rcases perm2 hp with rfl | rfl
  · unfold SortedBy at hs
    rw [List.pairwise_cons] at hs
    have := hs.1 (.o 13 i) (by simp)
    exact absurd this (by show ltCps (("k0" : Str).cps.toList) (("k1" : Str).cps.toList) ≠ false; decide +kernel)
  · rfl
theorem Fresh.txr {rows : List (V N5)} (F : Fresh P σ i) (hk : P.kind i ≠ 2) (hl : σ (.g 0) = some (.list rows)) : TxR σ (.o 0 i) (.o 1 i) (.o 2 i) (.o 3 i) (.o 4 i) (.o 5 i) (.o 6 i) (.o 7 i) (.o 8 i) (.g 0) (.o 9 i) (.o 10 i) (.o 11 i) (.st s_ACTIVE) (.dct [] []) (.dct [] []) .none [.o 12 i, .o 13 i] P.re rows where
  gt := by have := F.t; rw [if_neg hk] at this; exact this
  gm := F.m
  gw := F.w
  gd := F.d
  g1 := F.res
  g3 := F.ac
  g4 := F.ba
  g5 := F.aa
  gl := hl
  gp := fun p hp => by
    simp only [List.mem_cons, List.not_mem_nil, or_false] at hp
    rcases hp with rfl | rfl
    · exact ⟨F.p0, pr_ok P i 0⟩
    · exact ⟨F.p1, pr_ok P i 1⟩
  gs := F.no 9 (by omega) (by omega) (by omega)
  gc := F.no 10 (by omega) (by omega) (by omega)
  gi := F.no 11 (by omega) (by omega) (by omega)
theorem commit_center (S : StL O) (Pk : P.Ok) (hi : i < 6) (hb : i ∉ busy) (hk : P.kind i ≠ 2) (hD : 8 ≤ c.D) (hh : c.hd = .no) (W : World P σR σ done (i :: busy))
    (need : ∀ j done' σ c' ρ', j ∈ P.needs i → c'.D = c.D - 4 → c'.hd = .no → World P σR σ done' (i :: busy) → PCc O c' needV [.tup [.int (j : Int)], .dct [] []] [] [] ρ' σ (fun _ σ' => ∃ new, World P σR σ' (done' ++ new) (i :: busy) ∧ j ∈ done' ++ new ∧ P.roots j < 0) (fun x σ' => ∃ new, World P σR σ' (done' ++ new) (i :: busy) ∧ j ∈ done' ++ new ∧ 0 ≤ P.roots j ∧ x = refusal (.tup [.int (P.roots j), .int 0]) (.str "need")))
    (hQ : ∀ new σ', But P σR σ' (done ++ new) busy i → (∃ ks vs, EndsOk P σ' (done ++ new) (i :: busy) ks vs) → P.roots i = -1 → (∀ j ∈ P.asked i, j ∈ done ++ new) → Done P σ' i → σ' (.g 0) = some (.list ((done ++ new).flatMap P.rows ++ P.rows i)) → Q .none σ')
    (hX : ∀ new σ' what R rows, But P σR σ' (done ++ new) busy i → (∃ ks vs, EndsOk P σ' (done ++ new) (i :: busy) ks vs) → Half P σ' i R rows → 0 ≤ P.roots i → (∀ j ∈ P.asked i, j ∈ done ++ new) → rows ++ rowsAb i = (done ++ new).flatMap P.rows ++ P.rows i → rows.length ≤ 1000 → (R (.o 12 i)).who = whoV i 0 → (R (.o 13 i)).who = whoV i 1 → (R (.o 12 i)).back = P.prF i 0 → (R (.o 13 i)).back = P.prF i 1 → X (refusal (.tup [.int (P.roots i), .int 0]) what) σ') :
    PCc O c (.st (.ref f_TransactionManager_commit.addr)) [.ref (.o 0 i)] [] [] ρ σ Q X := by
  have hnd : i ∉ done := fun hx => W.apart i hx (.head _)
  have F := W.fresh i hi hnd
  have ht := F.t
  rw [if_neg hk] at ht
  refine tm_commit S (by omega) F.m ht fun c' ρ' e1 e2 => ?_
  refine txn_commit S (by omega) (by rw [e2]; exact hh) ⟨by simp⟩ (m := .o 0 i) (w := .o 1 i) (d := .o 2 i) (srt := .o 9 i) (crm := .o 10 i) (sio := .o 11 i) (ps := [.o 12 i, .o 13 i]) (R := P.re) (kk := kkN) (log := .g 0) ht F.bc (by rw [List.length_map]; have := Pk.len i hi; omega)
    (fun r σ' => ∃ pre post new, P.needs i = pre ++ post ∧ (r = post.map fun j : Nat => (needV, [.int (j : Int)], .dct [] [])) ∧ World P σR σ' (done ++ new) (i :: busy) ∧ ∀ j ∈ pre, j ∈ done ++ new ∧ P.roots j < 0)
    (fun x σ' => ∃ pre f post new, P.needs i = pre ++ f :: post ∧ World P σR σ' (done ++ new) (i :: busy) ∧ (∀ j ∈ pre, j ∈ done ++ new ∧ P.roots j < 0) ∧ f ∈ done ++ new ∧ 0 ≤ P.roots f ∧ x = refusal (.tup [.int (P.roots f), .int 0]) (.str "need"))
    ⟨[], P.needs i, [], rfl, rfl, by rw [List.append_nil]; exact W, nofun⟩ ?_ ?_ ?_ (by simp) (by simp) (fun p hp => ?_) (fun p hp => ?_) (by simp) (by simp) (by simp) ?_ ?_ ?_
  · rintro r σ' ⟨pre, post, new, _, _, W', _⟩
    exact (W'.fresh i hi fun hx => W'.apart i hx (.head _)).bc
  · rintro f as kw r σ' c₂ ρ₂ d1 d2 ⟨pre, post, new, h1, h2, W', h3⟩
    cases post with
    | nil => cases h2
    | cons j post =>
      rw [List.map_cons, List.cons.injEq] at h2
      obtain ⟨h2, rfl⟩ := h2
      cases h2
      refine PCc.mono (need j (done ++ new) σ' c₂ ρ₂ (by rw [h1]; simp) (by omega) d2 W') ?_ ?_
      · rintro v σ'' ⟨new', W'', g1, g2⟩
        rw [List.append_assoc] at W'' g1
        refine ⟨pre ++ [j], post, new ++ new', by rw [h1]; simp, rfl, W'', fun k hk => ?_⟩
        rcases List.mem_append.mp hk with q | q
        · exact ⟨by rw [← List.append_assoc]; exact List.mem_append_left _ (h3 k q).1, (h3 k q).2⟩
        · rw [List.mem_singleton.mp q]; exact ⟨g1, g2⟩
      · rintro x σ'' ⟨new', W'', g1, g2, rfl⟩
        rw [List.append_assoc] at W'' g1
        refine ⟨(W''.fresh i hi fun hx => W''.apart i hx (.head _)).bc, pre, j, post, new ++ new', h1, W'', fun k hk => ⟨by rw [← List.append_assoc]; exact List.mem_append_left _ (h3 k hk).1, (h3 k hk).2⟩, g1, g2, rfl⟩
  · rintro σ' ⟨pre, post, new, h1, h2, W', h3⟩
    have hn' : i ∉ done ++ new := fun hx => W'.apart i hx (.head _)
    refine ⟨_, (W'.fresh i hi hn').txr hk W'.log, ?_⟩
    have := W'.rows_len
    show ((done ++ new).flatMap P.rows).length + 10 * 2 < 1000000
    omega
  · simp only [List.mem_cons, List.not_mem_nil, or_false] at hp
    rcases hp with rfl | rfl <;> rfl
  · simp only [List.mem_cons, List.not_mem_nil, or_false] at hp
    rcases hp with rfl | rfl
    · have := says_vote P i 0
      split at this
      · exact .inr this
      · exact .inl this
    · have := says_vote P i 1
      rw [if_neg (by simp)] at this
      exact .inl this
  · rintro σ₀ rows qs σ' ⟨pre, post, new, h1, h2, W', h3⟩ Y q1 q2 q3 q4 q5 q6 q7 q8
    have hn' : i ∉ done ++ new := fun hx => W'.apart i hx (.head _)
    have F' := W'.fresh i hi hn'
    have hrows : rows = (done ++ new).flatMap P.rows := by have := Y.gl; rw [W'.log] at this; cases this; rfl
    subst hrows
    have hpost : post = [] := by cases post with | nil => rfl | cons _ _ => cases h2
    subst hpost
    rw [List.append_nil] at h1
    have hqs := sorted_pair q1 q2
    subst hqs
    have hk1 : P.kind i ≠ 1 := fun e => by
      have a := says_vote P i 0
      rw [if_pos ⟨e, rfl⟩] at a
      have b := q3 (.o 12 i) (by simp)
      have b : (P.pr i 0).says "tpc_vote" 0 := b
      unfold PR.says at a b
      rw [a] at b
      cases b
    obtain ⟨a1, a2⟩ := Pk.ok i hi hk (fun j hj => (h3 j (h1 ▸ hj)).2)
    rw [if_neg hk1] at a2
    have hw : P.worth i = 7 + i := by unfold Plan.worth; rw [if_pos (by omega)]
    have off : ∀ k, (k < 3 ∨ 14 ≤ k) → k ≠ 0 → σ' (.o k i) = σ₀ (.o k i) := fun k h1 h2 => q8 _ (by simp; omega) (by simp; omega)
    refine hQ new σ' ((W'.but' hn').same (fun k j hj => q8 _ (by simp [hj]) (by simp [hj])) fun k hk => q8 _ (by simp; omega) (by simp)) ?_ a2 (fun j hj => (h3 j (by rw [← h1, ← a1]; exact hj)).1) ⟨⟨(off 1 (by omega) (by omega)).trans F'.w, (off 2 (by omega) (by omega)).trans F'.d⟩, q6, ⟨_, _, q7⟩, ?_, ?_, fun k hk => (off k (by omega) (by omega)).trans (F'.no k (by omega) (by omega) (by omega))⟩ ?_
    · obtain ⟨ks, vs, E⟩ := W'.ends
      exact ⟨ks, vs, E.same (q8 _ (by simp) (by simp))⟩
    · refine (q5 (.o 12 i) (by simp)).1.trans (congrArg (fun r => some (PR.obj (N5.g 0) r)) ?_)
      unfold Plan.prF; rw [hw]; rfl
    · refine (q5 (.o 13 i) (by simp)).1.trans (congrArg (fun r => some (PR.obj (N5.g 0) r)) ?_)
      unfold Plan.prF; rw [hw]; rfl
    · rw [q4]
      have : P.rows i = rows3 i ++ rw2 "tpc_finish" i := by unfold Plan.rows; rw [if_pos (by omega)]
      rw [this]; rfl
  · rintro x σ' hb' ⟨pre, f, post, new, h1, W', h3, h4, h5, rfl⟩
    have hn' : i ∉ done ++ new := fun hx => W'.apart i hx (.head _)
    have F' := W'.fresh i hi hn'
    obtain ⟨a1, a2⟩ := Pk.failed i hi hk pre f post h1 (fun j hj => (h3 j hj).2) h5
    have hfi : f < i := Pk.lt i hi f (by rw [h1]; simp)
    have hfl := Pk.le f (by omega)
    have hw : P.worth i = 0 := by unfold Plan.worth; rw [if_neg (by omega)]
    have e1 : ∀ k, k ≠ 5 → (σ'.set (.o 5 i) (.list [])) (.o k i) = σ' (.o k i) := fun k hk => Sto.set_ne (by simp [hk])
    rw [← a1]
    refine hX new _ _ P.re ((done ++ new).flatMap P.rows) ((W'.but' hn').same (fun k j hj => Sto.set_ne (by simp [hj])) fun k hk => Sto.set_ne (by simp)) ?_ ⟨⟨(e1 1 (by omega)).trans F'.w, (e1 2 (by omega)).trans F'.d⟩, (e1 0 (by omega)).trans F'.m, ⟨_, _, _, _, _, (e1 3 (by omega)).trans F'.t⟩, (e1 4 (by omega)).trans F'.res, ⟨[], Sto.set_self, by simp⟩, (e1 6 (by omega)).trans F'.ac, (e1 7 (by omega)).trans F'.ba, (e1 8 (by omega)).trans F'.aa, fun p hp => ?_, fun k hk => (e1 k (by omega)).trans (F'.no k (by omega) (by omega) (by omega)), (Sto.set_ne (by simp)).trans W'.log⟩ (by omega) (fun j hj => ?_) ?_ (by have := W'.rows_len; omega) rfl rfl ?_ ?_
    · obtain ⟨ks, vs, E⟩ := W'.ends
      exact ⟨ks, vs, E.same (Sto.set_ne (by simp))⟩
    · simp only [List.mem_cons, List.not_mem_nil, or_false] at hp
      rcases hp with rfl | rfl
      · exact ⟨(e1 12 (by omega)).trans F'.p0, pr_ok P i 0⟩
      · exact ⟨(e1 13 (by omega)).trans F'.p1, pr_ok P i 1⟩
    · rw [a2] at hj
      rcases List.mem_append.mp hj with q | q
      · exact (h3 j q).1
      · rw [List.mem_singleton.mp q]; exact h4
    · have : P.rows i = rowsAb i := by unfold Plan.rows; rw [if_neg (by omega), if_neg (by intro hc; have := hc.2; omega)]; rfl
      rw [this]
    · unfold Plan.prF; rw [hw]; rfl
    · unfold Plan.prF; rw [hw]; rfl
  · rintro σ₀ rows good bad rest σ' ⟨pre, post, new, h1, h2, W', h3⟩ Y q1 q2 q3 q4 q5 q6 q7 q8
    have hn' : i ∉ done ++ new := fun hx => W'.apart i hx (.head _)
    have F' := W'.fresh i hi hn'
    have hrows : rows = (done ++ new).flatMap P.rows := by have := Y.gl; rw [W'.log] at this; cases this; rfl
    subst hrows
    have hpost : post = [] := by cases post with | nil => rfl | cons _ _ => cases h2
    subst hpost
    rw [List.append_nil] at h1
    have hqs := sorted_pair q1 q2
    have hgb : good = [.o 13 i] ∧ bad = .o 12 i ∧ rest = [] := by
      match good, hqs with
      | [], hqs =>
        have e : bad = .o 13 i := (List.cons.inj hqs).1
        subst e
        have a := says_vote P i 1
        rw [if_neg (by simp)] at a
        have b : (P.pr i 1).says "tpc_vote" 1 := q3
        unfold PR.says at a b
        rw [a] at b
        cases b
      | [x], hqs => cases hqs; exact ⟨rfl, rfl, rfl⟩
      | x :: y :: z, hqs => simp at hqs
    obtain ⟨rfl, rfl, rfl⟩ := hgb
    have hk1 : P.kind i = 1 := by
      have a := says_vote P i 0
      split at a
      · rename_i hc; exact hc.1
      · have b : (P.pr i 0).says "tpc_vote" 1 := q3
        unfold PR.says at a b
        rw [a] at b
        cases b
    obtain ⟨a1, a2⟩ := Pk.ok i hi hk (fun j hj => (h3 j (h1 ▸ hj)).2)
    rw [if_pos hk1] at a2
    have hw : P.worth i = 0 := by unfold Plan.worth; rw [if_neg (by omega)]
    have off : ∀ k, (k < 3 ∨ k = 4 ∨ (6 ≤ k ∧ k ≤ 8) ∨ 14 ≤ k) → σ' (.o k i) = σ₀ (.o k i) := fun k h1 => q8 _ (by simp; omega) (by simp; omega)
    have hwho : refusal (P.re (.o 12 i)).who (.str "tpc_vote") = refusal (.tup [.int (P.roots i), .int 0]) (.str "tpc_vote") := by rw [a2]; rfl
    rw [hwho]
    refine hX new σ' _ (fun p => (P.re p).back) ((done ++ new).flatMap P.rows ++ badRows [.o 13 i] (.o 12 i) [] P.re) ((W'.but' hn').same (fun k j hj => q8 _ (by simp [hj]) (by simp [hj])) fun k hk => q8 _ (by simp; omega) (by simp)) ?_ ⟨⟨(off 1 (by omega)).trans F'.w, (off 2 (by omega)).trans F'.d⟩, (off 0 (by omega)).trans F'.m, ⟨_, _, _, _, _, q6⟩, (off 4 (by omega)).trans F'.res, ⟨[], q7, by simp⟩, (off 6 (by omega)).trans F'.ac, (off 7 (by omega)).trans F'.ba, (off 8 (by omega)).trans F'.aa, q5, fun k hk => (off k (by omega)).trans (F'.no k (by omega) (by omega) (by omega)), q4⟩ (by omega) (fun j hj => (h3 j (by rw [← h1, ← a1]; exact hj)).1) ?_ ?_ rfl rfl ?_ ?_
    · obtain ⟨ks, vs, E⟩ := W'.ends
      exact ⟨ks, vs, E.same (q8 _ (by simp) (by simp))⟩
    · have : P.rows i = rowsBad i ++ rowsAb i := by unfold Plan.rows; rw [if_neg (by omega), if_pos ⟨hk1, a2⟩]
      rw [this, List.append_assoc]; rfl
    · have := W'.rows_len
      rw [List.length_append]
      have : (badRows [N5.o 13 i] (.o 12 i) [] P.re).length = 9 := rfl
      omega
    · unfold Plan.prF; rw [hw]; rfl
    · unfold Plan.prF; rw [hw]; rfl
end
section
variable {O : Om} {c : Cx N5} {ρ : Loc N5} {σ σR : Sto N5} {Q X : V N5 → Sto N5 → Prop} {P : Plan} {done busy : List Nat} {i : Nat}
abbrev centersV : V N5 := .lst [.ref (.o 0 0), .ref (.o 0 1), .ref (.o 0 2), .ref (.o 0 3), .ref (.o 0 4), .ref (.o 0 5)]
structure CellsOk (σR : Sto N5) : Prop where
  want : σR (.g 2) = some (.cell (some wantV))
  ends : σR (.g 3) = some (.cell (some (.ref (.g 1))))
  cens : σR (.g 4) = some (.cell (some centersV))
theorem center_at (hi : i < 6) : ([.ref (.o 0 0), .ref (.o 0 1), .ref (.o 0 2), .ref (.o 0 3), .ref (.o 0 4), .ref (.o 0 5)] : List (V N5))[i]? = some (.ref (.o 0 i)) := by
  match i, hi with
  | 0, _ => rfl
  | 1, _ => rfl
  | 2, _ => rfl
  | 3, _ => rfl
  | 4, _ => rfl
  | 5, _ => rfl
  | k + 6, h => omega
def WantOk (O : Om) (P : Plan) (i : Nat) : Prop := ∀ (c : Cx N5) (ρ : Loc N5) (σ σR : Sto N5) (done busy : List Nat) (Q X : V N5 → Sto N5 → Prop), 20 * (i + 1) ≤ c.D → c.hd = .no → CellsOk σR → World P σR σ done busy → (∀ b ∈ busy, i < b) →
  (∀ σ' new, World P σR σ' (done ++ new) busy → i ∈ done ++ new → Q (.int (P.roots i)) σ') → PCc O c wantV [.int (i : Int)] [] [] ρ σ Q X
theorem need_ok (S : StL O) {j : Nat} (hw : WantOk O P j) {k : V N5} (hD : 20 * (j + 1) + 2 ≤ c.D) (hh : c.hd = .no) (C : CellsOk σR) (W : World P σR σ done busy) (hb : ∀ b ∈ busy, j < b) (hQ : ∀ σ' new, World P σR σ' (done ++ new) busy → j ∈ done ++ new → P.roots j < 0 → Q .none σ')
    (hX : ∀ σ' new, World P σR σ' (done ++ new) busy → j ∈ done ++ new → 0 ≤ P.roots j → X (refusal (.tup [.int (P.roots j), .int 0]) (.str "need")) σ') : PCc O c needV [.tup [.int (j : Int)], k] [] [] ρ σ Q X := by
  refine need_go S (by omega) fun c' k3 e1 e2 => ?_
  have g2 : σ (.g 2) = some (.cell (some wantV)) := (W.rest 2 (by omega)).trans C.want
  refine AX.cons (AS.asg (AE.call S.ok (AE.cel k3 g2 (AEl.cons (AE.sub rfl (AE.loc rfl (AE.int (PI.tup (i := 0) rfl (by omega) ?_))))))))
  repeat kpc_signs
  refine PCc.pc (hw _ _ _ _ _ _ _ _ (by omega) (by rw [e2]; exact hh) C W hb fun σ' new W' hj => ?_)
  repeat kpc_signs
  by_cases h : 0 ≤ P.roots j
  · rw [show decide (P.roots j ≥ 0) = true from decide_eq_true h]
    repeat kpc_signs
    refine AS.raise S.ok ?_
    repeat kpc_signs
    refine refusal_new S (by omega) ?_
    exact ⟨_, _, _, _, rfl, refusal_cls S, by rw [e2, hh]; trivial, hX σ' new W' hj h⟩
  · rw [show decide (P.roots j ≥ 0) = false from decide_eq_false h]
    repeat kpc_signs
    exact hQ σ' new W' hj (by omega)
end
section
variable {O : Om} {c : Cx N5} {ρ : Loc N5} {σ σR : Sto N5} {Q X : V N5 → Sto N5 → Prop} {P : Plan} {done busy : List Nat} {i : Nat}
theorem World.put1 {ks : List Int} {vs : List (V N5)} (W : World P σR σ done busy) (E : EndsOk P σ done busy ks vs) (hi : i < 6) (h1 : i ∉ done) (h2 : i ∉ busy) :
    World P σR (σ.set (.g 1) (.dict ((dputK ks (i : Int)).map V.int) (dputV ks vs (i : Int) (.int (-1))))) done (i :: busy) where
  log := (Sto.set_ne (by simp)).trans W.log
  ends := ⟨_, _, E.put hi h1 h2⟩
  dnd := W.dnd
  dlt := W.dlt
  apart := fun j hj q => by
    rcases List.mem_cons.mp q with e | q
    · exact h1 (e ▸ hj)
    · exact W.apart j hj q
  blt := fun j q => by
    rcases List.mem_cons.mp q with e | q
    · exact e ▸ hi
    · exact W.blt j q
  fresh := fun j a b => (W.fresh j a b).same fun k => Sto.set_ne (by simp)
  fin := fun j a => (W.fin j a).same fun k => Sto.set_ne (by simp)
  asked := W.asked
  rest := fun k hk => (Sto.set_ne (by simp; omega)).trans (W.rest k hk)
/-- the end of a failed try: the cause is noted, the transaction aborted -/
theorem want_tail (S : StL O) {c' : Cx N5} {ρ : Loc N5} {R : N5 → PR N5} {rows : List (V N5)} {ks : List Int} {vs : List (V N5)} (k2 : c'.κ 2 = some (.cel (.g 4))) (k3 : c'.κ 3 = some (.cel (.g 3))) (hρ : ρ 0 = some (.int (i : Int))) (hD : 7 ≤ c'.D) (hh : c'.hd = .no) (C : CellsOk σR) (B : But P σR σ done busy i) (E : EndsOk P σ (done ++ [i]) busy ks vs) (H : Half P σ i R rows) (hi : i < 6) (hb : i ∉ busy) (h0 : 0 ≤ P.roots i) (ha : ∀ j ∈ P.asked i, j ∈ done) (hrw : rows ++ rowsAb i = done.flatMap P.rows ++ P.rows i) (hz : rows.length ≤ 1000) (w0 : (R (.o 12 i)).who = whoV i 0) (w1 : (R (.o 13 i)).who = whoV i 1) (f0 : (R (.o 12 i)).back = P.prF i 0) (f1 : (R (.o 13 i)).back = P.prF i 1)
    {Q : AF N5 → Loc N5 → Sto N5 → Prop} {X : V N5 → Loc N5 → Sto N5 → Prop} (h : ∀ σ', World P σR σ' (done ++ [i]) busy → Q .next ρ σ') :
    AS O c' (.ite (.cmp (.sub (.cel 3) (.loc 0)) [.GtE] [(.int (0))]) [.expr (.mcall (.sub (.cel 2) (.loc 0)) ("abort" : Str) [] [] [])] []) ρ σ Q X := by
  have g3 : σ (.g 3) = some (.cell (some (.ref (.g 1)))) := (B.rest 3 (by omega)).trans C.ends
  have g4 : σ (.g 4) = some (.cell (some centersV)) := (B.rest 4 (by omega)).trans C.cens
  have gi := E.eD i (by simp)
  refine AS.ite (AT.cmp (AE.sub rfl (AE.cel k3 g3 (AE.loc hρ (PI.dict (keyInt O N5) E.e E.nd gi ?_)))))
  repeat kpc_signs
  rw [show decide (P.roots i ≥ 0) = true from decide_eq_true h0]
  kpc_signs
  kpc_signs
  refine AS.expr rfl (AE.mcall S.ok (AE.sub rfl (AE.cel k2 g4 (AE.loc hρ (PI.lst rfl rfl (center_at hi) (by omega) ?_)))))
  refine pm_TransactionManager_abort S H.m ?_
  repeat kpc_signs
  refine PCc.pc (abort_center S (by omega) hh B H hz w0 w1 f0 f1 fun σ' B' D' l' e' => ?_)
  repeat kpc_signs
  exact h σ' (B'.world hi hb D' (by rw [l', hrw]) ⟨ks, vs, E.same e'⟩ ha)
theorem want_ret (S : StL O) {c' : Cx N5} {ρ : Loc N5} (k3 : c'.κ 3 = some (.cel (.g 3))) (hρ : ρ 0 = some (.int (i : Int))) (C : CellsOk σR) (W : World P σR σ done busy) (hi : i ∈ done) {Q : AF N5 → Loc N5 → Sto N5 → Prop} {X : V N5 → Loc N5 → Sto N5 → Prop} (h : Q (.ret (.int (P.roots i))) ρ σ) : AX O c' [.ret (some (.sub (.cel 3) (.loc 0)))] ρ σ Q X := by
  have g3 : σ (.g 3) = some (.cell (some (.ref (.g 1)))) := (W.rest 3 (by omega)).trans C.ends
  obtain ⟨ks, vs, E⟩ := W.ends
  refine AX.cons (AS.ret (AE.sub rfl (AE.cel k3 g3 (AE.loc hρ (PI.dict (keyInt O N5) E.e E.nd (E.eD i hi) ?_)))))
  exact h
theorem refusal_get (S : StL O) : ExcGet O.K C_Refusal := ⟨by km_fact, by km_fact, by km_fact, by km_fact⟩
theorem refusal_at (S : StL O) : AttrOk O C_Refusal "who" := attrB_ok (by km_fact)
theorem want_ok (S : StL O) (Pk : P.Ok) : ∀ i, i < 6 → WantOk O P i := fun i => by
  induction i using Nat.strongRecOn with
  | ind i IH =>
  intro hi c ρ σ σR done busy Q X hD hh C W hbb hQ
  have hb : i ∉ busy := fun h => Nat.lt_irrefl _ (hbb i h)
  refine want_go S (by omega) fun c' k2 k3 e1 e2 => ?_
  have hh' : c'.hd = .no := e2.trans hh
  have g3 : σ (.g 3) = some (.cell (some (.ref (.g 1)))) := (W.rest 3 (by omega)).trans C.ends
  have g4 : σ (.g 4) = some (.cell (some centersV)) := (W.rest 4 (by omega)).trans C.cens
  obtain ⟨ks, vs, E⟩ := W.ends
  repeat kpc_signs
  refine AE.cel k3 g3 (P2.notInDict S.ok (keyInt O N5) (k := (i : Int)) E.e E.nd ?_)
  by_cases hd : i ∈ done
  · have gi := E.eD i hd
    rw [gi]
    repeat kpc_signs
    refine AE.cel k3 g3 ?_
    repeat kpc_signs
    refine PI.dict (keyInt O N5) E.e E.nd gi ?_
    exact hQ σ [] (by rw [List.append_nil]; exact W) (by rw [List.append_nil]; exact hd)
  · rw [E.eN i hi hd hb]
    kpc_signs
    kpc_signs
    refine AX.cons (AS.asg (AE.neg (AE.int (P1.neg ?_))))
    refine ATg.sub (AE.cel k3 g3 (AE.loc (v := .int (i : Int)) rfl (P3U.dict (keyInt O N5) (k := (i : Int)) E.e E.nd (by have := E.short; omega) ?_)))
    have W₁ := W.put1 E hi hd hb
    have F := W₁.fresh i hi hd
    have hE₁ := E.put hi hd hb
    have g3' := (W₁.rest 3 (by omega)).trans C.ends
    have g4' := (W₁.rest 4 (by omega)).trans C.cens
    refine AX.cons (AS.tryE (by simp) ?_)
    refine AX.cons (AS.expr rfl (AE.mcall S.ok (AE.sub rfl (AE.cel k2 g4' (AE.loc rfl (PI.lst rfl rfl (center_at hi) (by omega) ?_))))))
    refine pm_TransactionManager_commit S F.m ?_
    repeat kpc_signs
    by_cases hk : P.kind i = 2
    · obtain ⟨a1, a2⟩ := Pk.doomed i hi hk
      have ht := F.t
      rw [if_pos hk] at ht
      refine PCc.pc (tm_commit S (by omega) F.m ht fun c₂ ρ₂ d1 d2 => txn_commit_doomed S (by omega) (by rw [d2]; exact hh') ht ?_)
      refine AH.typed S.ok rfl (hit := false) (by km_fact) ?_
      refine AH.typed S.ok rfl (hit := true) (by km_fact) ?_
      show AX O _ _ _ _ _ _
      repeat kpc_signs
      refine ATg.sub (AE.cel (by exact k3) g3' (AE.loc (v := .int (i : Int)) rfl (P3U.dict (keyInt O N5) (k := (i : Int)) hE₁.e hE₁.nd (by have := hE₁.short; omega) ?_)))
      have hE₂ := hE₁.fin hd hb hi
      rw [a1] at hE₂
      kpc_signs
      have e1 : ∀ k j (o : AO N5), ((σ.set (.g 1) (.dict ((dputK ks (i : Int)).map V.int) (dputV ks vs (i : Int) (.int (-1))))).set (.g 1) o) (.o k j) = (σ.set (.g 1) (.dict ((dputK ks (i : Int)).map V.int) (dputV ks vs (i : Int) (.int (-1))))) (.o k j) := fun k j o => Sto.set_ne (by simp)
      refine AX.cons (want_tail S (σR := σR) (R := P.re) (rows := done.flatMap P.rows) k2 k3 rfl (by omega) hh' C ((W₁.but' hd).same (fun k j _ => e1 k j _) fun k hk => Sto.set_ne (by simp; omega)) hE₂ ⟨⟨(e1 _ _ _).trans F.w, (e1 _ _ _).trans F.d⟩, (e1 _ _ _).trans F.m, ⟨_, _, _, _, _, (e1 _ _ _).trans F.t⟩, (e1 _ _ _).trans F.res, ⟨_, (e1 _ _ _).trans F.bc, by have := Pk.len i hi; simpa using this⟩, (e1 _ _ _).trans F.ac, (e1 _ _ _).trans F.ba, (e1 _ _ _).trans F.aa, fun p hp => ?_, fun k hk => (e1 _ _ _).trans (F.no k (by omega) (by omega) (by omega)), (Sto.set_ne (by simp)).trans W₁.log⟩ hi hb (by omega) (by rw [a2]; nofun) ?_ (by have := W.rows_len; omega) rfl rfl ?_ ?_ fun σ' W' => ?_)
      · simp only [List.mem_cons, List.not_mem_nil, or_false] at hp
        rcases hp with rfl | rfl
        · exact ⟨(e1 _ _ _).trans F.p0, pr_ok P i 0⟩
        · exact ⟨(e1 _ _ _).trans F.p1, pr_ok P i 1⟩
      · have : P.rows i = rowsAb i := by unfold Plan.rows; rw [if_neg (by omega), if_neg (by intro hc; have := hc.1; omega)]; rfl
        rw [this]
      · have hw : P.worth i = 0 := by unfold Plan.worth; rw [if_neg (by omega)]
        unfold Plan.prF; rw [hw]; rfl
      · have hw : P.worth i = 0 := by unfold Plan.worth; rw [if_neg (by omega)]
        unfold Plan.prF; rw [hw]; rfl
      · kpc_signs
        refine want_ret S (i := i) k3 (by rfl) C W' (by simp) ?_
        exact hQ σ' [i] W' (by simp)
    · refine PCc.pc (commit_center S Pk hi hb hk (by omega) hh' W₁ (fun j done' σ₁ c₂ ρ₂ hj d1 d2 W₂ => ?_) (fun new σ' B' E' a1 a2 D' l' => ?_) fun new σ' what R rows B' E' H' a1 a2 a3 a4 a5 a6 a7 a8 => ?_)
      · have hji := Pk.lt i hi j hj
        exact need_ok S (IH j hji (by omega)) (by omega) d2 C W₂ (fun b hb => by
          rcases List.mem_cons.mp hb with e | q
          · rw [e]; exact hji
          · exact Nat.lt_trans hji (hbb b q)) (fun σ' new w1 w2 w3 => ⟨new, w1, w2, w3⟩) fun σ' new w1 w2 w3 => ⟨new, w1, w2, w3, rfl⟩
      · repeat kpc_signs
        obtain ⟨ks', vs', hE'⟩ := E'
        have hn' : i ∉ done ++ new := fun hx => (B'.apart i hx).2 rfl
        refine AE.cel k3 ((B'.rest 3 (by omega)).trans C.ends) ?_
        repeat kpc_signs
        refine PI.dict (keyInt O N5) hE'.e hE'.nd (hE'.eB i (.head _)) ?_
        repeat kpc_signs
        have W' := B'.world hi hb D' l' ⟨ks', vs', hE'.fin0 hn' hb a1⟩ a2
        refine AE.cel k3 ((B'.rest 3 (by omega)).trans C.ends) ?_
        repeat kpc_signs
        refine PI.dict (keyInt O N5) hE'.e hE'.nd (hE'.eB i (.head _)) ?_
        have := hQ σ' (new ++ [i]) (by rw [← List.append_assoc]; exact W') (by simp)
        rw [a1] at this
        exact this
      · refine AH.typed S.ok rfl (hit := true) (by km_fact) ?_
        show AX O _ _ _ _ _ _
        have g3n := (B'.rest 3 (by omega)).trans C.ends
        obtain ⟨ks', vs', hE'⟩ := E'
        have hn' : i ∉ done ++ new := fun hx => (B'.apart i hx).2 rfl
        refine AX.cons (AS.asg (AE.sub rfl (AE.attr (AE.loc rfl (P1.excGet S.ok (refusal_get S) (refusal_at S) rfl rfl ?_)))))
        repeat kpc_signs
        refine PI.tup (i := 0) rfl (by omega) ?_
        refine ATg.sub (AE.cel (by exact k3) g3n (AE.loc (v := .int (i : Int)) rfl (P3U.dict (keyInt O N5) (k := (i : Int)) hE'.e hE'.nd (by have := hE'.short; omega) ?_)))
        kpc_signs
        have hE₂ := hE'.fin hn' hb hi
        have e1 : ∀ k j (o : AO N5), (σ'.set (.g 1) o) (.o k j) = σ' (.o k j) := fun k j o => Sto.set_ne (by simp)
        refine AX.cons (want_tail S (σR := σR) (R := R) (rows := rows) k2 k3 rfl (by omega) hh' C (B'.same (fun k j _ => e1 k j _) fun k hk => Sto.set_ne (by simp; omega)) hE₂ ⟨⟨(e1 _ _ _).trans H'.w, (e1 _ _ _).trans H'.d⟩, (e1 _ _ _).trans H'.m, (let ⟨st, ad, vo, ex, ft, q⟩ := H'.t; ⟨st, ad, vo, ex, ft, (e1 _ _ _).trans q⟩), (e1 _ _ _).trans H'.res, (let ⟨l, q, z⟩ := H'.bc; ⟨l, (e1 _ _ _).trans q, z⟩), (e1 _ _ _).trans H'.ac, (e1 _ _ _).trans H'.ba, (e1 _ _ _).trans H'.aa, fun p hp => ⟨(show (σ'.set (.g 1) _) p = σ' p from Sto.set_ne (by rintro rfl; simp at hp)).trans (H'.ps p hp).1, (H'.ps p hp).2⟩, fun k hk => (e1 _ _ _).trans (H'.no k hk), (Sto.set_ne (by simp)).trans H'.lg⟩ hi hb a1 a2 a3 a4 a5 a6 a7 a8 fun σ'' W' => ?_)
        kpc_signs
        refine want_ret S (i := i) k3 (by rfl) C W' (by simp) ?_
        exact hQ σ'' (new ++ [i]) (by rw [← List.append_assoc]; exact W') (by simp)
end
/-! the law's plan out of its seven numbers -/
@[irreducible] def numAt (ns : List Nat) (i : Nat) : Nat := ns[i]?.getD 0
def othersAt (ns : List Nat) (i : Nat) : List Nat := if numAt ns i < 384 then List.range i else (List.range i).reverse
@[irreducible] def needsAt (ns : List Nat) (i : Nat) : List Nat := (othersAt ns i).filter fun j => numAt ns i / 2 ^ j % 2 == 1
@[irreducible] def kindAt (ns : List Nat) (i : Nat) : Int := ([0, 0, 0, 0, 1, 2] : List Int)[numAt ns i / 64 % 6]?.getD 0
def rootAt (ns : List Nat) (i : Nat) (rs : List Int) : Int := if kindAt ns i = 2 then i else match (needsAt ns i).find? (fun j => decide (0 ≤ rs[j]?.getD 0)) with
  | some f => rs[f]?.getD 0
  | none => if kindAt ns i = 1 then i else -1
def rootsL (ns : List Nat) : Nat → List Int
  | 0 => []
  | i + 1 => rootsL ns i ++ [rootAt ns i (rootsL ns i)]
@[irreducible] def rootsOf (ns : List Nat) (i : Nat) : Int := rootAt ns i (rootsL ns i)
theorem rootsL_eq (ns : List Nat) : ∀ i, rootsL ns i = (List.range i).map (rootsOf ns)
  | 0 => rfl
  | i + 1 => by rw [List.range_succ, List.map_append, ← rootsL_eq ns i, List.map_cons, List.map_nil]; unfold rootsOf; rfl
theorem rootsL_at (ns : List Nat) {i j : Nat} (h : j < i) : (rootsL ns i)[j]? = some (rootsOf ns j) := by
  rw [rootsL_eq, List.getElem?_map, List.getElem?_range h]; rfl
theorem others_mem {ns : List Nat} {i j : Nat} : j ∈ othersAt ns i ↔ j < i := by
  unfold othersAt; split <;> simp
theorem needs_lt {ns : List Nat} {i j : Nat} (h : j ∈ needsAt ns i) : j < i := by unfold needsAt at h; exact others_mem.mp (List.mem_filter.mp h).1
theorem needs_len {ns : List Nat} {i : Nat} : (needsAt ns i).length ≤ i := by
  unfold needsAt
  refine Nat.le_trans (List.length_filter_le _ _) ?_
  unfold othersAt; split <;> simp
@[irreducible] def firstBad (ns : List Nat) (i : Nat) : Option Nat := (needsAt ns i).find? fun j => decide (0 ≤ rootsOf ns j)
theorem bad_mem {ns : List Nat} {i f : Nat} (h : firstBad ns i = some f) : f ∈ needsAt ns i := by unfold firstBad at h; exact List.mem_of_find?_eq_some h
theorem find_congr {α : Type} {p q : α → Bool} : ∀ {l : List α}, (∀ x ∈ l, p x = q x) → l.find? p = l.find? q
  | [], _ => rfl
  | a :: l, h => by rw [List.find?_cons, List.find?_cons, h a (.head _), find_congr fun x hx => h x (.tail _ hx)]
theorem roots_eq (ns : List Nat) (i : Nat) : rootsOf ns i = if kindAt ns i = 2 then (i : Int) else match firstBad ns i with
    | some f => rootsOf ns f
    | none => if kindAt ns i = 1 then (i : Int) else -1 := by
  have e : (needsAt ns i).find? (fun j => decide (0 ≤ (rootsL ns i)[j]?.getD 0)) = firstBad ns i := by unfold firstBad; exact find_congr fun j hj => by rw [rootsL_at ns (needs_lt hj)]; rfl
  conv => lhs; unfold rootsOf
  unfold rootAt
  rw [e]
  split
  · rfl
  · cases q : firstBad ns i with
    | none => rfl
    | some f =>
      have hf : f ∈ needsAt ns i := bad_mem q
      show ((rootsL ns i)[f]?).getD 0 = _
      rw [rootsL_at ns (needs_lt hf)]; rfl
@[irreducible] def askedAt (ns : List Nat) (i : Nat) : List Nat := if kindAt ns i = 2 then [] else match firstBad ns i with
  | some f => (needsAt ns i).take ((needsAt ns i).idxOf f + 1)
  | none => needsAt ns i
def planOf (ns : List Nat) : Plan := ⟨needsAt ns, kindAt ns, rootsOf ns, askedAt ns⟩
theorem kindAt_in (ns : List Nat) (i : Nat) : kindAt ns i = 0 ∨ kindAt ns i = 1 ∨ kindAt ns i = 2 := by
  unfold kindAt
  have h : numAt ns i / 64 % 6 < 6 := Nat.mod_lt _ (by omega)
  match numAt ns i / 64 % 6, h with
  | 0, _ => exact .inl rfl
  | 1, _ => exact .inl rfl
  | 2, _ => exact .inl rfl
  | 3, _ => exact .inl rfl
  | 4, _ => exact .inr (.inl rfl)
  | 5, _ => exact .inr (.inr rfl)
  | k + 6, h => omega
theorem roots_le (ns : List Nat) (i : Nat) : rootsOf ns i ≤ (i : Int) := by
  induction i using Nat.strongRecOn with
  | ind i IH =>
    rw [roots_eq]
    split
    · exact Int.le_refl _
    · cases q : firstBad ns i with
      | none => dsimp only; split <;> omega
      | some f =>
        have hf := needs_lt (bad_mem q)
        have := IH f hf
        dsimp only; omega
theorem find_first {α : Type} {p : α → Bool} {pre post : List α} {f : α} (h1 : ∀ j ∈ pre, p j = false) (h2 : p f = true) : (pre ++ f :: post).find? p = some f := by
  induction pre with
  | nil => simp [h2]
  | cons a pre ih => rw [List.cons_append, List.find?_cons, h1 a (.head _)]; exact ih fun j hj => h1 j (.tail _ hj)
theorem idx_first {pre post : List Nat} {f : Nat} (h : f ∉ pre) : (pre ++ f :: post).idxOf f = pre.length := by
  induction pre with
  | nil => simp
  | cons a pre ih =>
    have h1 : a ≠ f := fun e => h (by rw [e]; exact .head _)
    have h2 := ih fun q => h (.tail _ q)
    have hb : (a == f) = false := beq_eq_false_iff_ne.mpr h1
    rw [List.cons_append, List.idxOf_cons, hb, List.length_cons, h2]
    rfl
theorem plan_ok (ns : List Nat) : (planOf ns).Ok where
  lt := fun i _ j hj => needs_lt hj
  len := fun i hi => by have := needs_len (ns := ns) (i := i); show (needsAt ns i).length ≤ 6; omega
  le := fun i _ => roots_le ns i
  kinds := fun i _ => kindAt_in ns i
  doomed := fun i _ hk => by
    have hk : kindAt ns i = 2 := hk
    refine ⟨?_, ?_⟩
    · show rootsOf ns i = _; rw [roots_eq, if_pos hk]
    · show askedAt ns i = _; unfold askedAt; rw [if_pos hk]
  failed := fun i _ hk pre f post h1 h2 h3 => by
    have hk : kindAt ns i ≠ 2 := hk
    have h1 : needsAt ns i = pre ++ f :: post := h1
    have hf : f ∉ pre := fun q => by have := h2 f q; omega
    have e : firstBad ns i = some f := by
      unfold firstBad; rw [h1]
      exact find_first (fun j hj => decide_eq_false (by have : rootsOf ns j < 0 := h2 j hj
                                                        omega)) (decide_eq_true h3)
    refine ⟨?_, ?_⟩
    · show rootsOf ns i = _; rw [roots_eq, if_neg hk, e]; rfl
    · show askedAt ns i = _; unfold askedAt; rw [if_neg hk, e]
      dsimp only
      rw [h1, idx_first hf, show pre.length + 1 = (pre ++ [f]).length by simp, show pre ++ f :: post = (pre ++ [f]) ++ post by simp, List.take_left']
      rfl
  ok := fun i _ hk h => by
    have hk : kindAt ns i ≠ 2 := hk
    have e : firstBad ns i = none := by
      unfold firstBad
      refine List.find?_eq_none.mpr fun j hj => ?_
      have : rootsOf ns j < 0 := h j hj
      simp; omega
    refine ⟨?_, ?_⟩
    · show askedAt ns i = _; unfold askedAt; rw [if_neg hk, e]; rfl
    · show rootsOf ns i = _; rw [roots_eq, if_neg hk, e]; rfl
section
variable {N : Type} {O : Om} {c c' : Cx N} {ρ : Loc N} {σ : Sto N} {Q X : V N → Sto N → Prop}
theorem ints_rep {T : TM N} : ∀ {vs : List Value} {is : List Int}, IntsAre vs is → VReps O T (is.map V.int) vs
  | _, _, .nil => .nil
  | _, _, .cons i t h => .cons (by unfold VRep; exact ⟨_, rfl⟩) (ints_rep h)
/-- a slice of the law's argument -/
theorem PS.script {l : Addr} {vs : List Value} {is : List Int} {k : Nat} (hB : O.B.IsList l vs.toArray) (hi : IntsAre vs is) (hl : is.length < 1000000) (h : Q (.lst ((is.map V.int).take k)) σ) : PS O c (.st (.ref l)) .none (.int (k : Int)) ρ σ Q X := fun A env T Φ s a l' u' b hA ha hl' hu' hb => by
  unfold VRep at ha; subst ha
  obtain ⟨o, ho, h1, n, h2⟩ := hB
  obtain ⟨ob, hob, e⟩ := hA.rep.trk l _ (hA.rep.base l o ho)
  have e : ob = o := e
  subst e
  have hL : s.heap.IsList l vs.toArray := ⟨ob, hob, h1, n, h2⟩
  have hx := ints_rep (O := O) (T := T) hi
  refine ⟨⟨"list", _, ⟨_, hob, h1⟩, PySem.slot_list_getitem⟩, wpAny_getItem_list_slice (lo := Option.none) (hi := some (k : Int)) (st := Option.none) hL ⟨_, hb, rfl, rfl⟩ (part_of hl' .none) (part_of hu' (.int _)) .none (by simp) ?_ (by rw [List.size_toArray, hx.length, List.length_map, sizeLine_eq]; omega)⟩
  have hA' := hA.fro_new (o := listOf (slicePick vs.toArray Option.none (some (k : Int)) Option.none) 0) (s' := { s with heap := s.heap.push (listOf (slicePick vs.toArray Option.none (some (k : Int)) Option.none) 0) }) (fun b o e => Heap.get?_push_of_some _ e) (Nat.le_refl _) (Heap.get?_push_size _ rfl)
  have le := TM.le_ins (t := (Trk.fro (listOf (slicePick vs.toArray Option.none (some (k : Int)) Option.none) 0) : Trk N)) hA.rep.size_none
  exact .mk' hA' ⟨le, rfl, rfl⟩ (by unfold VRep; exact ⟨_, _, 0, rfl, TM.ins_self, VReps.mono le _ (by rw [slicePick_upto']; simpa using hx.take k)⟩) h
/-- a loop over range(m): by what holds ahead of each turn -/
theorem ForR.up {t : MT} {a : List MS} {Q : AF N → Loc N → Sto N → Prop} {X : V N → Loc N → Sto N → Prop} (I : Nat → Loc N → Sto N → Prop) (m : Nat) (fin : ∀ ρ σ, I m ρ σ → Q .next ρ σ)
    (step : ∀ k ρ σ, k < m → I k ρ σ → ATg O c t (.int (k : Int)) ρ σ (fun ρ σ => AX O c a ρ σ (fun af ρ σ => match af with
      | .next => I (k + 1) ρ σ
      | .cont => I (k + 1) ρ σ
      | .brk => Q .next ρ σ
      | .ret v => Q (.ret v) ρ σ) X) X) : ∀ (n k : Nat) (ρ : Loc N) (σ : Sto N), k + n = m → I k ρ σ → ForR O c t a Q X 1 n (k : Int) ρ σ
  | 0, k, ρ, σ, e, h => fin ρ σ (by rw [← show k = m by omega]; exact h)
  | n + 1, k, ρ, σ, e, h => (step k ρ σ (by omega) h).mono fun ρ σ h2 => h2.mono (fun af ρ σ q => by
      have go : I (k + 1) ρ σ → ForR O c t a Q X 1 n ((k : Int) + 1) ρ σ := fun q => ForR.up I m fin step n (k + 1) ρ σ (by omega) q
      cases af with
      | next => exact go q
      | cont => exact go q
      | brk => exact q
      | ret v => exact q) fun _ _ _ x => x
/-- [f(x) for x in xs] -/
theorem items_map {i : Nat} {elt : ME} {K : Sto N → Prop} (hK : K σ) (f : V N → V N) : ∀ (vs acc : List (V N)) (ρ : Loc N) (Q : List (V N) → Loc N → Sto N → Prop), (∀ v ∈ vs, ∀ (ρ' : Loc N) (R : V N → Sto N → Prop), R (f v) σ → AE O c' elt (ρ'.upd i v) σ R X) → acc.length + vs.length < 1000000 → (∀ ρ', Q (acc ++ vs.map f) ρ' σ) →
    itemsW O c' X (.loc i) [] (innerW O c' X elt []) K vs acc ρ σ Q
  | [], acc, ρ, Q, _, _, h => by have := h ρ; rw [List.map_nil, List.append_nil] at this; exact this
  | v :: vs, acc, ρ, Q, he, hz, h => by
    rw [List.length_cons] at hz
    refine ATg.loc ⟨by omega, he v (.head _) ρ _ ⟨hK, ?_⟩⟩
    refine items_map hK f vs _ _ _ (fun u hu => he u (.tail _ hu)) (by rw [List.length_append, List.length_singleton]; omega) fun ρ' => ?_
    rw [List.append_assoc]; exact h ρ'
/-- [x for x in xs if p(x)] -/
theorem items_filter {i : Nat} {cond : ME} {K : Sto N → Prop} (hK : K σ) (p : V N → Bool) : ∀ (vs acc : List (V N)) (ρ : Loc N) (Q : List (V N) → Loc N → Sto N → Prop), (∀ v ∈ vs, ∀ (ρ' : Loc N) (R : Bool → Sto N → Prop), R (p v) σ → AT O c' cond (ρ'.upd i v) σ R X) → acc.length + vs.length < 1000000 → (∀ ρ', Q (acc ++ vs.filter p) ρ' σ) →
    itemsW O c' X (.loc i) [cond] (innerW O c' X (.loc i) []) K vs acc ρ σ Q
  | [], acc, ρ, Q, _, _, h => by have := h ρ; rw [List.filter_nil, List.append_nil] at this; exact this
  | v :: vs, acc, ρ, Q, he, hz, h => by
    rw [List.length_cons] at hz
    refine ATg.loc (he v (.head _) ρ _ ?_)
    cases hp : p v with
    | true =>
      refine ⟨by omega, AE.loc (v := v) (by simp [Loc.upd]) ⟨hK, ?_⟩⟩
      refine items_filter hK p vs _ _ _ (fun u hu => he u (.tail _ hu)) (by rw [List.length_append, List.length_singleton]; omega) fun ρ' => ?_
      rw [List.append_assoc]
      have := h ρ'
      rw [List.filter_cons_of_pos hp] at this
      exact this
    | false =>
      refine ⟨hK, ?_⟩
      refine items_filter hK p vs _ _ _ (fun u hu => he u (.tail _ hu)) (by omega) fun ρ' => ?_
      have := h ρ'
      rw [List.filter_cons_of_neg (by simp [hp])] at this
      exact this
end
abbrev lw0 : MS := .asg [(.loc 1)] (.comp (.bin .Mod (.loc 1) (.int (768))) [(.mk (.loc 1) (.sub (.loc 0) (.sli none (some (.int (7))))) [])] ⟨.function, [((".0" : Str), .local), (("number" : Str), .local)], false, false, []⟩ [])
abbrev lw1 : MS := .asg [(.loc 1)] (.bin .Add (.loc 1) (.sub (.lst [(.int (0)), (.int (1)), (.int (3)), (.int (4)), (.int (9)), (.int (16)), (.int (5))]) (.sli (some (.call (.st g_len) [(.loc 1)] [] [])) none)))
abbrev lw2 : MS := .asg [(.loc 2)] (.lst [])
abbrev lw3 : MS := .asg [(.loc 3)] (.lst [])
abbrev lw4 : MS := .asg [(.loc 4)] (.lst [])
abbrev lw5 : MS := .asg [(.cel 5)] (.lst [])
abbrev lw6 : MS := .for (.cel 6) (.call (.st g_range) [(.int (6))] [] []) [.asg [(.cel 7)] (.sub (.loc 1) (.cel 6)),
    .asg [(.loc 8)] (.ite (.cmp (.cel 7) [.Lt] [(.int (384))]) (.call (.st g_range) [(.cel 6)] [] []) (.call (.st g_range) [(.bin .Sub (.cel 6) (.int (1))), (.neg (.int (1))), (.neg (.int (1)))] [] [])),
    .expr (.mcall (.loc 2) ("append" : Str) [(.comp (.loc 1) [(.mk (.loc 1) (.loc 8) [(.cmp (.bin .Mod (.bin .FloorDiv (.cel 2) (.bin .Pow (.int (2)) (.loc 1))) (.int (2))) [.Eq] [(.int (1))])])] ⟨.function, [((".0" : Str), .local), (("j" : Str), .local), (("n" : Str), .free)], false, false, []⟩ [(2, 7)])] [] []),
    .expr (.mcall (.loc 4) ("append" : Str) [(.sub (.tup [(.int (0)), (.int (0)), (.int (0)), (.int (0)), (.int (1)), (.int (2))]) (.bin .Mod (.bin .FloorDiv (.cel 7) (.int (64))) (.int (6))))] [] []),
    .asg [(.loc 10)] (.comp (.loc 1) [(.mk (.loc 1) (.sub (.loc 2) (.cel 6)) [(.cmp (.sub (.cel 2) (.loc 1)) [.GtE] [(.int (0))])])] ⟨.function, [((".0" : Str), .local), (("j" : Str), .local), (("roots" : Str), .free)], false, false, []⟩ [(2, 5)]),
    .ite (.cmp (.sub (.loc 4) (.cel 6)) [.Eq] [(.int (2))]) [.expr (.mcall (.loc 3) ("append" : Str) [(.lst [])] [] []),
    .expr (.mcall (.cel 5) ("append" : Str) [(.cel 6)] [] [])] [.ite (.cmp (.loc 10) [.NotEq] [(.lst [])]) [.expr (.mcall (.loc 3) ("append" : Str) [(.sub (.sub (.loc 2) (.cel 6)) (.sli none (some (.bin .Add (.mcall (.sub (.loc 2) (.cel 6)) ("index" : Str) [(.sub (.loc 10) (.int (0)))] [] []) (.int (1))))))] [] []),
    .expr (.mcall (.cel 5) ("append" : Str) [(.sub (.cel 5) (.sub (.loc 10) (.int (0))))] [] [])] [.expr (.mcall (.loc 3) ("append" : Str) [(.sub (.loc 2) (.cel 6))] [] []),
    .expr (.mcall (.cel 5) ("append" : Str) [(.ite (.cmp (.sub (.loc 4) (.cel 6)) [.Eq] [(.int (1))]) (.cel 6) (.neg (.int (1))))] [] [])]]]
abbrev lw7 : MS := .asg [(.loc 11)] (.lst [])
abbrev lw8 : MS := .asg [(.cel 25)] (.dct [] [])
abbrev lw9 : MS := .asg [(.cel 24)] (.comp (.call (.st g_TransactionManager) [] [] []) [(.mk (.loc 1) (.call (.st g_range) [(.int (6))] [] []) [])] ⟨.function, [((".0" : Str), .local), (("i" : Str), .local), (("TransactionManager" : Str), .globalImplicit)], false, false, []⟩ [])
abbrev lw10 : MS := .defn 40173572 (.cel 23) [25, 24]
abbrev lw11 : MS := .defn 41025540 (.loc 12) [23]
abbrev lw12 : MS := .asg [(.loc 13)] (.lst [])
abbrev lw13 : MS := .asg [(.loc 14)] (.lst [])
abbrev lw14 : MS := .for (.cel 6) (.call (.st g_range) [(.int (6))] [] []) [.asg [(.loc 15)] (.mcall (.sub (.cel 24) (.cel 6)) ("begin" : Str) [] [] []),
    .expr (.mcall (.loc 14) ("append" : Str) [(.loc 15)] [] []),
    .for (.loc 16) (.tup [(.int (0)), (.int (1))]) [.asg [(.loc 17)] (.call (.st g_Manager) [(.tup [(.cel 6), (.loc 16)]), (.bin .Add (.str ("k" : Str)) (.call (.st g_str) [(.bin .Sub (.int (1)) (.loc 16))] [] [])), (.ite (.bop .And [(.cmp (.sub (.loc 4) (.cel 6)) [.Eq] [(.int (1))]), (.cmp (.loc 16) [.Eq] [(.int (0))])]) (.dct [(.str ("tpc_vote" : Str))] [(.int (1))]) (.dct [] [])), (.loc 11)] [] []),
    .expr (.mcall (.loc 15) ("join" : Str) [(.loc 17)] [] []),
    .asg [(.attr (.loc 17) ("value" : Str))] (.bin .Add (.int (7)) (.cel 6)),
    .expr (.mcall (.loc 13) ("append" : Str) [(.loc 17)] [] [])],
    .for (.loc 9) (.sub (.loc 2) (.cel 6)) [.expr (.mcall (.loc 15) ("addBeforeCommitHook" : Str) [(.loc 12), (.tup [(.loc 9)])] [] [])],
    .ite (.cmp (.sub (.loc 4) (.cel 6)) [.Eq] [(.int (2))]) [.expr (.mcall (.loc 15) ("doom" : Str) [] [] [])] []]
abbrev lw15 : MS := .for (.loc 18) (.call (.st g_range) [(.int (6))] [] []) [.expr (.call (.cel 23) [(.bin .Mod (.bin .Add (.sub (.loc 1) (.int (6))) (.bin .Mult (.ite (.cmp (.bin .Mod (.bin .FloorDiv (.sub (.loc 1) (.int (6))) (.int (6))) (.int (2))) [.Eq] [(.int (0))]) (.int (1)) (.int (5))) (.loc 18))) (.int (6)))] [] [])]
abbrev lw16 : MS := .asg [(.cel 19)] (.lst [])
abbrev lw17 : MS := .for (.loc 20) (.loc 11) [.ite (.cmp (.sub (.sub (.loc 20) (.int (1))) (.int (0))) [.NotIn] [(.cel 19)]) [.expr (.mcall (.cel 19) ("append" : Str) [(.sub (.sub (.loc 20) (.int (1))) (.int (0)))] [] [])] []]
abbrev lw18 : MS := .asg [(.loc 21)] (.lst [])
abbrev lw19 : MS := .for (.cel 6) (.cel 19) [.asg [(.loc 21)] (.bin .Add (.loc 21) (.call (.st g__law_rows) [(.cel 6), (.sub (.loc 4) (.cel 6)), (.sub (.cel 5) (.cel 6))] [] []))]
abbrev lw20 : MS := .ite (.bop .Or [(.cmp (.call (.st g_sorted) [(.cel 19)] [] []) [.NotEq] [(.lst [(.int (0)), (.int (1)), (.int (2)), (.int (3)), (.int (4)), (.int (5))])]), (.cmp (.loc 11) [.NotEq] [(.loc 21)]), (.cmp (.comp (.sub (.cel 2) (.loc 1)) [(.mk (.loc 1) (.call (.st g_range) [(.int (6))] [] []) [])] ⟨.function, [((".0" : Str), .local), (("i" : Str), .local), (("ends" : Str), .free)], false, false, []⟩ [(2, 25)]) [.NotEq] [(.cel 5)])]) [.ret (some (.bool false))] []
abbrev lw21 : MS := .for (.cel 6) (.call (.st g_range) [(.int (6))] [] []) [.ite (.bop .Or [(.cmp (.comp (.loc 1) [(.mk (.loc 1) (.sub (.loc 3) (.cel 6)) [(.cmp (.mcall (.cel 3) ("index" : Str) [(.loc 1)] [] []) [.Gt] [(.mcall (.cel 3) ("index" : Str) [(.cel 2)] [] [])])])] ⟨.function, [((".0" : Str), .local), (("j" : Str), .local), (("i" : Str), .free), (("order" : Str), .free)], false, false, []⟩ [(2, 6), (3, 19)]) [.NotEq] [(.lst [])]), (.cmp (.mcall (.sub (.cel 24) (.cel 6)) ("get" : Str) [] [] []) [.Is] [(.sub (.loc 14) (.cel 6))])]) [.ret (some (.bool false))] []]
abbrev lw22 : MS := .for (.loc 17) (.loc 13) [.asg [(.loc 22)] (.ite (.cmp (.sub (.cel 5) (.sub (.attr (.loc 17) ("who" : Str)) (.int (0)))) [.Lt] [(.int (0))]) (.bin .Add (.int (7)) (.sub (.attr (.loc 17) ("who" : Str)) (.int (0)))) (.int (0))),
    .ite (.bop .Or [(.cmp (.attr (.loc 17) ("kept" : Str)) [.NotEq] [(.loc 22)]), (.cmp (.attr (.loc 17) ("value" : Str)) [.NotEq] [(.loc 22)])]) [.ret (some (.bool false))] []]
abbrev lw23 : MS := .ret (some (.bool true))
theorem m_law_eq : m_law = [lw0, lw1, lw2, lw3, lw4, lw5, lw6, lw7, lw8, lw9, lw10, lw11, lw12, lw13, lw14, lw15, lw16, lw17, lw18, lw19, lw20, lw21, lw22, lw23] := rfl
abbrev nv (j : Nat) : V N5 := .int (j : Int)
structure LawCx (c : Cx N5) : Prop where
  k5 : c.κ 5 = some (.cel (.g 5))
  k6 : c.κ 6 = some (.cel (.g 6))
  k7 : c.κ 7 = some (.cel (.g 7))
  k19 : c.κ 19 = some (.cel (.g 8))
  k23 : c.κ 23 = some (.cel (.g 2))
  k24 : c.κ 24 = some (.cel (.g 4))
  k25 : c.κ 25 = some (.cel (.g 3))
  hd : c.hd = .no
  D : 200 ≤ c.D
  nest : c.fc.nest = true
theorem LawCx.good {c : Cx N5} (L : LawCx c) : c.hd.good = true := by rw [L.hd]; rfl
section
variable {O : Om} {c : Cx N5} {ρ : Loc N5} {σ σ₀ : Sto N5}
def numsOf (is : List Int) : List Nat := (is.take 7).map (fun x => (x.fmod 768).toNat) ++ [0, 1, 3, 4, 9, 16, 5].drop (is.take 7).length
theorem numsOf_len (is : List Int) : (numsOf is).length = 7 := by
  unfold numsOf
  rw [List.length_append, List.length_map, List.length_drop]
  have : (is.take 7).length ≤ 7 := by rw [List.length_take]; omega
  simp only [List.length_cons, List.length_nil]; omega
theorem numsOf_lt (is : List Int) : ∀ n ∈ numsOf is, n < 768 := fun n hn => by
  unfold numsOf at hn
  rcases List.mem_append.mp hn with h | h
  · obtain ⟨x, _, rfl⟩ := List.mem_map.mp h
    have h1 := Int.fmod_nonneg_of_pos x (b := 768) (by omega)
    have h2 := Int.fmod_lt_of_pos x (b := 768) (by omega)
    omega
  · have := List.mem_of_mem_drop h
    simp only [List.mem_cons, List.not_mem_nil, or_false] at this
    omega
def vmod : V N5 → V N5
  | .int x => .int (x.fmod 768)
  | v => v
theorem nums0_eq (is : List Int) : ((is.take 7).map V.int).map vmod = ((is.take 7).map (fun x => (x.fmod 768).toNat)).map nv := by
  rw [List.map_map, List.map_map]
  refine List.map_congr_left fun x _ => ?_
  show V.int (x.fmod 768) = V.int (((x.fmod 768).toNat : Nat) : Int)
  rw [Int.toNat_of_nonneg (Int.fmod_nonneg_of_pos x (by omega))]
theorem law_numbers (S : StL O) (L : LawCx c) {l : Addr} {vs : List Value} {is : List Int} (hB : O.B.IsList l vs.toArray) (hi : IntsAre vs is) (hl : is.length < 64) (hρ : ρ 0 = some (.st (.ref l))) {ms : List MS} {Q : AF N5 → Loc N5 → Sto N5 → Prop} {X : V N5 → Loc N5 → Sto N5 → Prop}
    (h : ∀ ρ', ρ' 1 = some (.lst ((numsOf is).map nv)) → AX O c ms ρ' σ Q X) : AX O c (lw0 :: lw1 :: ms) ρ σ Q X := by
  have hz : ([] : List (V N5)).length + ((is.map V.int).take 7 : List (V N5)).length < 1000000 := by simp; omega
  refine AX.cons (AS.asgC S.ok L.good (by rfl) (AE.subS (AE.loc hρ (AE.int (PS.script (k := 7) hB hi (by omega) ⟨(is.map V.int).take 7, rfl, ?_⟩)))))
  refine items_map (by rfl) vmod _ _ _ _ (fun v hv ρ' R hR => ?_) hz fun ρ' => ?_
  · obtain ⟨x, _, rfl⟩ := List.mem_map.mp (List.mem_of_mem_take hv)
    repeat kpc_signs
    exact P2.mod (by omega) hR
  · rw [← List.map_take]
    rw [nums0_eq]
    rw [List.nil_append]
    have hlen : (is.take 7).length ≤ 7 := by rw [List.length_take]; omega
    refine AX.cons (AS.asg (AE.bin (AE.loc (by rfl) (AE.subS (AE.lst ?_)))))
    repeat kpc_signs
    show AE O _ _ _ _ _ _
    repeat kpc_signs
    refine PC.len rfl rfl (by simp; omega) ?_
    refine PS.from rfl rfl (by simp) ?_
    refine P2.addL rfl rfl rfl rfl ?_ ?_
    · simp; omega
    refine ATg.loc (h _ ?_)
    have e : (numsOf is).map nv = ((is.take 7).map (fun x => (x.fmod 768).toNat)).map nv ++ ([.int 0, .int 1, .int 3, .int 4, .int 9, .int 16, .int 5] : List (V N5)).drop (((is.take 7).map (fun x => (x.fmod 768).toNat)).map nv).length := by
      unfold numsOf
      rw [List.map_append, List.map_drop, List.length_map, List.length_map]
      rfl
    rw [e]
    simp [Loc.upd]
end
local macro_rules | `(tactic| kpc_signs) => `(tactic| first
  | ((with_reducible refine AE.me ?_); refine AE.cel (by first | exact LawCx.k5 (by assumption) | exact LawCx.k6 (by assumption) | exact LawCx.k7 (by assumption) | exact LawCx.k19 (by assumption) | exact LawCx.k23 (by assumption) | exact LawCx.k24 (by assumption) | exact LawCx.k25 (by assumption)) (by kpt_eq) ?_)
  | ((with_reducible refine ATg.me ?_); refine ATg.cel (by first | exact LawCx.k5 (by assumption) | exact LawCx.k6 (by assumption) | exact LawCx.k7 (by assumption) | exact LawCx.k19 (by assumption) | exact LawCx.k24 (by assumption) | exact LawCx.k25 (by assumption)) (by kpt_eq) ?_))
section
variable {O : Om} {c : Cx N5} {ρ : Loc N5} {σ σ₀ : Sto N5} {Q X : V N5 → Sto N5 → Prop}
abbrev upto (f : Nat → V N5) (k : Nat) : List (V N5) := (List.range k).map f
abbrev natsV (l : List Nat) : V N5 := .lst (l.map nv)
structure L1 (ns : List Nat) (k : Nat) (σ₀ σ : Sto N5) : Prop where
  c5 : σ (.g 5) = some (.cell (some (.ref (.g 12))))
  c6 : ∃ v, σ (.g 6) = some (.cell v)
  c7 : ∃ v, σ (.g 7) = some (.cell v)
  l9 : σ (.g 9) = some (.list (upto (fun i => natsV (needsAt ns i)) k))
  l10 : σ (.g 10) = some (.list (upto (fun i => natsV (askedAt ns i)) k))
  l11 : σ (.g 11) = some (.list (upto (fun i => .int (kindAt ns i)) k))
  l12 : σ (.g 12) = some (.list (upto (fun i => .int (rootsOf ns i)) k))
  off : ∀ n, n ∉ [N5.g 5, .g 6, .g 7, .g 9, .g 10, .g 11, .g 12] → σ n = σ₀ n
structure R1 (ns : List Nat) (ρ : Loc N5) : Prop where
  r1 : ρ 1 = some (.lst (ns.map nv))
  r2 : ρ 2 = some (.ref (.g 9))
  r3 : ρ 3 = some (.ref (.g 10))
  r4 : ρ 4 = some (.ref (.g 11))
theorem law_lists (S : StL O) (L : LawCx c) {ns : List Nat} (hρ : ρ 1 = some (.lst (ns.map nv))) (n9 : σ (.g 9) = Option.none) (n10 : σ (.g 10) = Option.none) (n11 : σ (.g 11) = Option.none) (n12 : σ (.g 12) = Option.none) (c5 : σ (.g 5) = some (.cell Option.none)) (c6 : σ (.g 6) = some (.cell Option.none)) (c7 : σ (.g 7) = some (.cell Option.none)) {ms : List MS} {Q : AF N5 → Loc N5 → Sto N5 → Prop} {X : V N5 → Loc N5 → Sto N5 → Prop}
    (h : ∀ ρ' σ', R1 ns ρ' → L1 ns 0 σ σ' → AX O c ms ρ' σ' Q X) : AX O c (lw2 :: lw3 :: lw4 :: lw5 :: ms) ρ σ Q X := by
  refine AX.cons (AS.asg (AE.lstN (.g 9) (AEl.nil ⟨by simp, by kpt_eq, ATg.loc ?_⟩)))
  refine AX.cons (AS.asg (AE.lstN (.g 10) (AEl.nil ⟨by simp, by kpt_eq, ATg.loc ?_⟩)))
  refine AX.cons (AS.asg (AE.lstN (.g 11) (AEl.nil ⟨by simp, by kpt_eq, ATg.loc ?_⟩)))
  refine AX.cons (AS.asg (AE.lstN (.g 12) (AEl.nil ⟨by simp, by kpt_eq, ATg.cel L.k5 (by kpt_eq) ?_⟩)))
  refine h _ _ ⟨by simp [Loc.upd, hρ], by simp [Loc.upd], by simp [Loc.upd], by simp [Loc.upd]⟩ ⟨by kpt_eq, ⟨_, by kpt_eq⟩, ⟨_, by kpt_eq⟩, by kpt_eq, by kpt_eq, by kpt_eq, by kpt_eq, fun n hn => ?_⟩
  simp only [List.mem_cons, not_or, List.not_mem_nil, not_false_eq_true, and_true] at hn
  obtain ⟨x1, x2, x3, x4, x5, x6, x7⟩ := hn
  rw [Sto.set_ne x1, Sto.set_ne x7, Sto.set_ne x6, Sto.set_ne x5, Sto.set_ne x4]
theorem others_walk {ns : List Nat} {i : Nat} (hi : i < 6) : (if numAt ns i < 384 then walkOf σ (.rng 0 (i : Int) 1) else walkOf σ (.rng ((i : Int) - 1) (-1) (-1))) = some ((othersAt ns i).map nv) := by
  unfold othersAt
  by_cases h : numAt ns i < 384
  · rw [if_pos h, if_pos h]
    match i, hi with
    | 0, _ => rfl
    | 1, _ => rfl
    | 2, _ => rfl
    | 3, _ => rfl
    | 4, _ => rfl
    | 5, _ => rfl
    | k + 6, h => omega
  · rw [if_neg h, if_neg h]
    match i, hi with
    | 0, _ => rfl
    | 1, _ => rfl
    | 2, _ => rfl
    | 3, _ => rfl
    | 4, _ => rfl
    | 5, _ => rfl
    | k + 6, h => omega
theorem upto_at {f : Nat → V N5} {k j : Nat} (h : j < k) : (upto f k)[j]? = some (f j) := by
  rw [List.getElem?_map, List.getElem?_range h]; rfl
theorem upto_succ {f : Nat → V N5} {k : Nat} : upto f (k + 1) = upto f k ++ [f k] := by
  unfold upto; rw [List.range_succ, List.map_append]; rfl
theorem upto_len {f : Nat → V N5} {k : Nat} : (upto f k).length = k := by simp
end
local macro_rules | `(tactic| kpc_signs) => `(tactic| first
  | ((with_reducible refine AE.me ?_); refine AE.loc (by first | rfl | assumption) ?_)
  | ((with_reducible refine AE.me ?_); refine AE.cel (by first | exact LawCx.k5 (by assumption) | exact LawCx.k6 (by assumption) | exact LawCx.k7 (by assumption) | exact LawCx.k19 (by assumption) | exact LawCx.k23 (by assumption) | exact LawCx.k24 (by assumption) | exact LawCx.k25 (by assumption)) (by kpt_eq) ?_)
  | ((with_reducible refine ATg.me ?_); refine ATg.cel (by first | exact LawCx.k5 (by assumption) | exact LawCx.k6 (by assumption) | exact LawCx.k7 (by assumption) | exact LawCx.k19 (by assumption) | exact LawCx.k24 (by assumption) | exact LawCx.k25 (by assumption)) (by kpt_eq) ?_))
section
variable {O : Om} {c : Cx N5} {ρ : Loc N5} {σ σ₀ : Sto N5} {Q X : V N5 → Sto N5 → Prop}
theorem num_at {ns : List Nat} {k : Nat} (hn : ns.length = 7) (hk : k < 7) : (ns.map nv)[k]? = some (nv (numAt ns k)) := by
  unfold numAt
  rw [List.getElem?_map, List.getElem?_eq_getElem (by omega)]; rfl
theorem others_val (S : StL O) (L : LawCx c) {ns : List Nat} {k : Nat} (hk : k < 6) (c6 : σ (.g 6) = some (.cell (some (.int (k : Int))))) (c7 : σ (.g 7) = some (.cell (some (nv (numAt ns k))))) (h : ∀ v, (∀ σ : Sto N5, walkOf σ v = some ((othersAt ns k).map nv)) → Q v σ) :
    AE O c (.ite (.cmp (.cel 7) [.Lt] [(.int (384))]) (.call (.st g_range) [(.cel 6)] [] []) (.call (.st g_range) [(.bin .Sub (.cel 6) (.int (1))), (.neg (.int (1))), (.neg (.int (1)))] [] [])) ρ σ Q X := by
  refine AE.ite ?_
  repeat kpc_signs
  by_cases h1 : numAt ns k < 384
  · rw [show decide (((numAt ns k : Nat) : Int) < 384) = true from decide_eq_true (by omega)]
    repeat kpc_signs
    refine PC.range1 (h _ fun σ => ?_)
    have := others_walk (σ := σ) (ns := ns) hk
    rw [if_pos h1] at this
    exact this
  · rw [show decide (((numAt ns k : Nat) : Int) < 384) = false from decide_eq_false (by omega)]
    repeat kpc_signs
    refine P2.sub ?_
    repeat kpc_signs
    refine P1.neg ?_
    repeat kpc_signs
    refine P1.neg ?_
    repeat kpc_signs
    refine PC.range3 (by decide) (PyProof.noPylong_small (by decide)) (h _ fun σ => ?_)
    have := others_walk (σ := σ) (ns := ns) hk
    rw [if_neg h1] at this
    exact this
theorem bit_eq {n j : Nat} : (((n : Int).fdiv ((2 : Int) ^ j)).fmod 2 == 1) = (n / 2 ^ j % 2 == 1) := by
  have e1 : ((2 : Int) ^ j) = ((2 ^ j : Nat) : Int) := by simp
  rw [e1, Int.fdiv_eq_ediv_of_nonneg _ (Int.natCast_nonneg _), ← Int.natCast_ediv, Int.fmod_eq_emod_of_nonneg _ (by omega)]
  have e2 : (((n / 2 ^ j : Nat) : Int) % 2) = ((n / 2 ^ j % 2 : Nat) : Int) := by omega
  rw [e2]
  rw [Bool.eq_iff_iff, beq_iff_eq, beq_iff_eq]
  omega
theorem needs_val (S : StL O) (L : LawCx c) {ns : List Nat} {k : Nat} {v : V N5} (hk : k < 6) (hn : numAt ns k < 768) (hρ : ρ 8 = some v) (hv : ∀ σ : Sto N5, walkOf σ v = some ((othersAt ns k).map nv)) (c7 : σ (.g 7) = some (.cell (some (nv (numAt ns k))))) (h : Q (natsV (needsAt ns k)) σ) :
    AE O c (.comp (.loc 1) [(.mk (.loc 1) (.loc 8) [(.cmp (.bin .Mod (.bin .FloorDiv (.cel 2) (.bin .Pow (.int (2)) (.loc 1))) (.int (2))) [.Eq] [(.int (1))])])] ⟨.function, [((".0" : Str), .local), (("j" : Str), .local), (("n" : Str), .free)], false, false, []⟩ [(2, 7)]) ρ σ Q X := by
  refine AE.comp S.ok L.good (by simp [capAll, List.range, List.range.loop, L.k7]) (AE.loc hρ ⟨_, hv σ, ?_⟩)
  refine items_filter (hv σ) (fun u => match u with | .int j => (numAt ns k / 2 ^ j.toNat % 2 == 1) | _ => false) _ _ _ _ (fun u hu ρ' R hR => ?_) ?_ fun ρ' => ?_
  · obtain ⟨j, hj, rfl⟩ := List.mem_map.mp hu
    have hj6 : j < 6 := by have := others_mem.mp hj; omega
    have hp : ((2 : Int) ^ j) ≠ 0 ∧ ((2 : Int) ^ j).natAbs < 1073741824 := by
      match j, hj6 with
      | 0, _ => decide
      | 1, _ => decide
      | 2, _ => decide
      | 3, _ => decide
      | 4, _ => decide
      | 5, _ => decide
      | k + 6, h => omega
    refine AT.cmp (AE.bin (AE.bin (AE.cel (by exact L.k7) c7 (AE.bin (AE.int (AE.loc (v := nv j) (by simp [Loc.upd]) (P2.pow2 (by omega) ?_)))))))
    refine P2.fdiv hp.1 (PyProof.noPylong_small hp.2) (AE.int (P2.mod (by omega) (AE.int (P2.cmpI (.inl ⟨rfl, rfl⟩) (P1B.bool ?_)))))
    rw [bit_eq]
    exact hR
  · rw [List.length_map]
    have : (othersAt ns k).length = k := by unfold othersAt; split <;> simp
    rw [this, List.length_nil]; omega
  · rw [List.nil_append]
    have e : ((othersAt ns k).map nv).filter (fun u => match u with | .int j => (numAt ns k / 2 ^ j.toNat % 2 == 1) | _ => false) = (needsAt ns k).map nv := by
      unfold needsAt
      rw [List.filter_map]
      rfl
    rw [e]
    exact h
theorem kind_at {ns : List Nat} {k : Nat} (h : Q (.int (kindAt ns k)) σ) : PI O c (.tup [.int 0, .int 0, .int 0, .int 0, .int 1, .int 2]) (.int (((numAt ns k : Nat) : Int).fdiv 64 |>.fmod 6)) ρ σ Q X := by
  have e : (((numAt ns k : Nat) : Int).fdiv 64).fmod 6 = ((numAt ns k / 64 % 6 : Nat) : Int) := by
    rw [Int.fdiv_eq_ediv_of_nonneg _ (by omega), Int.fmod_eq_emod_of_nonneg _ (by omega)]
    omega
  rw [e]
  have h6 : numAt ns k / 64 % 6 < 6 := Nat.mod_lt _ (by omega)
  refine PI.tup (x := .int (kindAt ns k)) ?_ (by omega) h
  unfold kindAt
  match numAt ns k / 64 % 6, h6 with
  | 0, _ => rfl
  | 1, _ => rfl
  | 2, _ => rfl
  | 3, _ => rfl
  | 4, _ => rfl
  | 5, _ => rfl
  | k + 6, h => omega
def failedAt (ns : List Nat) (k : Nat) : List Nat := (needsAt ns k).filter fun j => decide (0 ≤ rootsOf ns j)
theorem failed_stmt (S : StL O) (L : LawCx c) {ns : List Nat} {k : Nat} (hk : k < 6) (r : R1 ns ρ) (c5 : σ (.g 5) = some (.cell (some (.ref (.g 12))))) (c6 : σ (.g 6) = some (.cell (some (.int (k : Int))))) (l9 : σ (.g 9) = some (.list (upto (fun i => natsV (needsAt ns i)) (k + 1)))) (l12 : σ (.g 12) = some (.list (upto (fun i => .int (rootsOf ns i)) k)))
    {Q : AF N5 → Loc N5 → Sto N5 → Prop} {X : V N5 → Loc N5 → Sto N5 → Prop} (h : Q .next (ρ.upd 10 (natsV (failedAt ns k))) σ) :
    AS O c (.asg [(.loc 10)] (.comp (.loc 1) [(.mk (.loc 1) (.sub (.loc 2) (.cel 6)) [(.cmp (.sub (.cel 2) (.loc 1)) [.GtE] [(.int (0))])])] ⟨.function, [((".0" : Str), .local), (("j" : Str), .local), (("roots" : Str), .free)], false, false, []⟩ [(2, 5)])) ρ σ Q X := by
  obtain ⟨r1, r2, r3, r4⟩ := r
  refine AS.asgC S.ok L.good (by simp [capAll, List.range, List.range.loop, L.k5]) ?_
  repeat kpc_signs
  refine PI.lst rfl (items_ref l9) (upto_at (Nat.lt_succ_self k)) (by omega) ⟨_, rfl, ?_⟩
  refine items_filter (by rfl) (fun u => match u with | .int j => decide (0 ≤ rootsOf ns j.toNat) | _ => false) _ _ _ _ (fun u hu ρ' R hR => ?_) ?_ fun ρ' => ?_
  · obtain ⟨j, hj, rfl⟩ := List.mem_map.mp hu
    have hjk := needs_lt hj
    refine AT.cmp (AE.sub rfl (AE.cel (by exact L.k5) c5 (AE.loc (v := nv j) (by simp [Loc.upd]) (PI.lst rfl (items_ref l12) (upto_at hjk) (by omega) (AE.int (P2.cmpI (r := decide (0 ≤ rootsOf ns j)) (.inr (.inr (.inr (.inr (.inr ⟨rfl, rfl⟩))))) (P1B.bool ?_)))))))
    exact hR
  · rw [List.length_map, List.length_nil]
    have := needs_len (ns := ns) (i := k)
    omega
  · rw [List.nil_append]
    have e : ((needsAt ns k).map nv).filter (fun u => match u with | .int j => decide (0 ≤ rootsOf ns j.toNat) | _ => false) = (failedAt ns k).map nv := by
      unfold failedAt
      rw [List.filter_map]
      rfl
    rw [e]
    exact h
theorem failed_head (ns : List Nat) (k : Nat) : (failedAt ns k).head? = firstBad ns k := by unfold failedAt firstBad; exact List.head?_filter
theorem idx_cast (l : List Nat) (f : Nat) : (l.map fun j : Nat => (j : Int)).idxOf (f : Int) = l.idxOf f := by
  induction l with
  | nil => rfl
  | cons a l ih =>
    rw [List.map_cons, List.idxOf_cons, List.idxOf_cons, ih]
    have : ((a : Int) == (f : Int)) = (a == f) := by rw [Bool.eq_iff_iff, beq_iff_eq, beq_iff_eq]; omega
    rw [this]
theorem asked_stmt (S : StL O) (L : LawCx c) {ns : List Nat} {k : Nat} (hk : k < 6) (r2 : ρ 2 = some (.ref (.g 9))) (r3 : ρ 3 = some (.ref (.g 10))) (r4 : ρ 4 = some (.ref (.g 11))) (r10 : ρ 10 = some (natsV (failedAt ns k))) (c5 : σ (.g 5) = some (.cell (some (.ref (.g 12))))) (c6 : σ (.g 6) = some (.cell (some (.int (k : Int)))))
    (l9 : σ (.g 9) = some (.list (upto (fun i => natsV (needsAt ns i)) (k + 1)))) (l10 : σ (.g 10) = some (.list (upto (fun i => natsV (askedAt ns i)) k))) (l11 : σ (.g 11) = some (.list (upto (fun i => .int (kindAt ns i)) (k + 1)))) (l12 : σ (.g 12) = some (.list (upto (fun i => .int (rootsOf ns i)) k)))
    {Q : AF N5 → Loc N5 → Sto N5 → Prop} {X : V N5 → Loc N5 → Sto N5 → Prop} (h : Q .next ρ ((σ.set (.g 10) (.list (upto (fun i => natsV (askedAt ns i)) (k + 1)))).set (.g 12) (.list (upto (fun i => .int (rootsOf ns i)) (k + 1))))) :
    AS O c (.ite (.cmp (.sub (.loc 4) (.cel 6)) [.Eq] [(.int (2))]) [.expr (.mcall (.loc 3) ("append" : Str) [(.lst [])] [] []),
    .expr (.mcall (.cel 5) ("append" : Str) [(.cel 6)] [] [])] [.ite (.cmp (.loc 10) [.NotEq] [(.lst [])]) [.expr (.mcall (.loc 3) ("append" : Str) [(.sub (.sub (.loc 2) (.cel 6)) (.sli none (some (.bin .Add (.mcall (.sub (.loc 2) (.cel 6)) ("index" : Str) [(.sub (.loc 10) (.int (0)))] [] []) (.int (1))))))] [] []),
    .expr (.mcall (.cel 5) ("append" : Str) [(.sub (.cel 5) (.sub (.loc 10) (.int (0))))] [] [])] [.expr (.mcall (.loc 3) ("append" : Str) [(.sub (.loc 2) (.cel 6))] [] []),
    .expr (.mcall (.cel 5) ("append" : Str) [(.ite (.cmp (.sub (.loc 4) (.cel 6)) [.Eq] [(.int (1))]) (.cel 6) (.neg (.int (1))))] [] [])]]) ρ σ Q X := by
  repeat kpc_signs
  refine PI.lst rfl (items_ref l11) (upto_at (Nat.lt_succ_self k)) (by omega) ?_
  repeat kpc_signs
  by_cases hk2 : kindAt ns k = 2
  · have e1 : askedAt ns k = [] := by unfold askedAt; rw [if_pos hk2]
    have e2 : rootsOf ns k = k := by rw [roots_eq, if_pos hk2]
    rw [show (kindAt ns k == 2) = true from beq_iff_eq.mpr hk2]
    repeat kpc_signs
    refine PM.append (by kpt_eq) ?_
    repeat kpc_signs
    refine AE.lst ?_
    repeat kpc_signs
    refine PC.append (by kpt_eq) (by rw [upto_len]; omega) ?_
    repeat kpc_signs
    refine PM.append (by kpt_eq) ?_
    repeat kpc_signs
    refine PC.append (by kpt_eq) (by rw [upto_len]; omega) ?_
    repeat kpc_signs
    rw [upto_succ (f := fun i => natsV (askedAt ns i)), upto_succ (f := fun i => .int (rootsOf ns i))] at h
    rw [e1, e2] at h
    exact h
  · rw [show (kindAt ns k == 2) = false from beq_eq_false_iff_ne.mpr hk2]
    repeat kpc_signs
    refine AE.lst ?_
    repeat kpc_signs
    have hh := failed_head ns k
    have hD := L.D
    cases hf : failedAt ns k with
    | nil =>
      rw [hf] at hh
      have hb : firstBad ns k = none := hh.symm
      have e1 : askedAt ns k = needsAt ns k := by unfold askedAt; rw [if_neg hk2, hb]
      have e2 : rootsOf ns k = if kindAt ns k = 1 then (k : Int) else -1 := by rw [roots_eq, if_neg hk2, hb]
      refine P2.eqL (q := true) (by omega) rfl rfl rfl rfl rfl (.inr ⟨rfl, rfl⟩) ?_
      repeat kpc_signs
      refine PM.append (by kpt_eq) ?_
      repeat kpc_signs
      refine PI.lst rfl (items_ref l9) (upto_at (Nat.lt_succ_self k)) (by omega) ?_
      repeat kpc_signs
      refine PC.append (by kpt_eq) (by rw [upto_len]; omega) ?_
      repeat kpc_signs
      refine PM.append (by kpt_eq) ?_
      repeat kpc_signs
      refine AE.ite ?_
      repeat kpc_signs
      refine PI.lst rfl (items_ref (by kpt_eq)) (upto_at (Nat.lt_succ_self k)) (by omega) ?_
      repeat kpc_signs
      rw [upto_succ (f := fun i => natsV (askedAt ns i)), upto_succ (f := fun i => .int (rootsOf ns i))] at h
      rw [e1, e2] at h
      by_cases hk1 : kindAt ns k = 1
      · rw [if_pos hk1] at h
        rw [show (kindAt ns k == 1) = true from beq_iff_eq.mpr hk1]
        repeat kpc_signs
        refine PC.append (by kpt_eq) (by rw [upto_len]; omega) ?_
        repeat kpc_signs
        exact h
      · rw [if_neg hk1] at h
        rw [show (kindAt ns k == 1) = false from beq_eq_false_iff_ne.mpr hk1]
        repeat kpc_signs
        refine P1.neg ?_
        repeat kpc_signs
        refine PC.append (by kpt_eq) (by rw [upto_len]; omega) ?_
        repeat kpc_signs
        exact h
    | cons f rest =>
      rw [hf] at hh
      have hb : firstBad ns k = some f := hh.symm
      have hfm : f ∈ needsAt ns k := by have h1 := hb; unfold firstBad at h1; exact List.mem_of_find?_eq_some h1
      have hfk := needs_lt hfm
      have e1 : askedAt ns k = (needsAt ns k).take ((needsAt ns k).idxOf f + 1) := by unfold askedAt; rw [if_neg hk2, hb]
      have e2 : rootsOf ns k = rootsOf ns f := by rw [roots_eq, if_neg hk2, hb]
      rw [hf] at r10
      have hlen := needs_len (ns := ns) (i := k)
      have hcast : (needsAt ns k).map nv = ((needsAt ns k).map fun j : Nat => (j : Int)).map V.int := by rw [List.map_map]; rfl
      refine P2.eqL (q := false) (by omega) rfl rfl rfl rfl rfl (.inr ⟨rfl, rfl⟩) ?_
      repeat kpc_signs
      refine PM.append (by kpt_eq) ?_
      repeat kpc_signs
      refine AE.subS ?_
      repeat kpc_signs
      refine PI.lst rfl (items_ref l9) (upto_at (Nat.lt_succ_self k)) (by omega) ?_
      show AE O _ _ _ _ _ _
      repeat kpc_signs
      refine PI.lst rfl (items_ref l9) (upto_at (Nat.lt_succ_self k)) (by omega) ?_
      refine PM.index (n := .g 0) rfl rfl ?_
      repeat kpc_signs
      refine PI.lst (i := 0) rfl rfl rfl (by omega) ?_
      repeat kpc_signs
      refine PC.index rfl (by show some _ = some _; rw [hcast]) (k := (f : Int)) (List.mem_map.mpr ⟨f, hfm, rfl⟩) (by rw [List.length_map]; omega) ?_
      rw [idx_cast]
      repeat kpc_signs
      refine P2.add ?_
      refine PS.upto (k := (needsAt ns k).idxOf f + 1) rfl rfl (by rw [List.length_map]; omega) ?_
      repeat kpc_signs
      refine PC.append (by kpt_eq) (by rw [upto_len]; omega) ?_
      repeat kpc_signs
      refine PM.append (by kpt_eq) ?_
      repeat kpc_signs
      refine PI.lst (i := 0) rfl rfl rfl (by omega) ?_
      refine PI.lst rfl (items_ref (by kpt_eq)) (upto_at hfk) (by omega) ?_
      repeat kpc_signs
      refine PC.append (by kpt_eq) (by rw [upto_len]; omega) ?_
      repeat kpc_signs
      rw [upto_succ (f := fun i => natsV (askedAt ns i)), upto_succ (f := fun i => .int (rootsOf ns i))] at h
      rw [e1, e2] at h
      rw [← List.map_take]
      exact h
theorem loop1 (S : StL O) (L : LawCx c) {ns : List Nat} (hn : ns.length = 7) (hlt : ∀ n ∈ ns, n < 768) (r : R1 ns ρ) (H : L1 ns 0 σ₀ σ) {Q : AF N5 → Loc N5 → Sto N5 → Prop} {X : V N5 → Loc N5 → Sto N5 → Prop} (h : ∀ ρ' σ', R1 ns ρ' → L1 ns 6 σ₀ σ' → Q .next ρ' σ') : AS O c lw6 ρ σ Q X := by
  obtain ⟨r1, r2, r3, r4⟩ := r
  refine AS.forR L.good ?_
  repeat kpc_signs
  refine PC.range1 ⟨0, 6, 1, 6, rfl, rfl, ?_⟩
  refine ForR.up (fun k ρ σ => R1 ns ρ ∧ L1 ns k σ₀ σ) 6 (fun ρ σ q => h ρ σ q.1 q.2) (fun k ρ σ hk ⟨r, H⟩ => ?_) 6 0 ρ σ rfl ⟨⟨r1, r2, r3, r4⟩, H⟩
  obtain ⟨c5, ⟨v6, c6⟩, ⟨v7, c7⟩, l9, l10, l11, l12, off⟩ := H
  obtain ⟨r1, r2, r3, r4⟩ := r
  have hnum := num_at hn (k := k) (by omega)
  have hn768 : numAt ns k < 768 := by
    unfold numAt
    rw [List.getElem?_eq_getElem (by omega)]
    exact hlt _ (List.getElem_mem _)
  have hkf : ((k : Int).natAbs) < 1000 := by omega
  repeat kpc_signs
  refine PI.lst rfl rfl hnum (by omega) ?_
  repeat kpc_signs
  refine others_val S L hk (by kpt_eq) (by kpt_eq) fun v hv => ?_
  repeat kpc_signs
  refine PM.append (by kpt_eq) ?_
  repeat kpc_signs
  refine needs_val S L hk hn768 rfl hv (by kpt_eq) ?_
  repeat kpc_signs
  refine PC.append (by kpt_eq) (by rw [upto_len]; omega) ?_
  repeat kpc_signs
  refine PM.append (by kpt_eq) ?_
  repeat kpc_signs
  refine P2.fdiv (by decide) (PyProof.noPylong_small (by decide)) ?_
  repeat kpc_signs
  refine P2.mod (by decide) ?_
  refine kind_at ?_
  repeat kpc_signs
  refine PC.append (by kpt_eq) (by rw [upto_len]; omega) ?_
  repeat kpc_signs
  rw [← upto_succ (f := fun i => natsV (needsAt ns i)), ← upto_succ (f := fun i => .int (kindAt ns i))]
  refine failed_stmt S L hk (by exact ⟨r1, r2, r3, r4⟩) (by kpt_eq) (by kpt_eq) (by kpt_eq) (by kpt_eq) ?_
  refine AX.cons (asked_stmt S L hk (by exact r2) (by exact r3) (by exact r4) rfl (by kpt_eq) (by kpt_eq) (by kpt_eq) (by kpt_eq) (by kpt_eq) (by kpt_eq) ?_)
  refine AX.nil ⟨⟨r1, r2, r3, r4⟩, by kpt_eq, ⟨_, by kpt_eq⟩, ⟨_, by kpt_eq⟩, by kpt_eq, by kpt_eq, by kpt_eq, by kpt_eq, fun n hn => ?_⟩
  have hn0 := hn
  simp only [List.mem_cons, not_or, List.not_mem_nil, not_false_eq_true, and_true] at hn
  obtain ⟨x1, x2, x3, x4, x5, x6, x7⟩ := hn
  rw [Sto.set_ne x7, Sto.set_ne x5, Sto.set_ne x6, Sto.set_ne x4, Sto.set_ne x3, Sto.set_ne x2]
  exact off n hn0
end
section
variable {N : Type} {O : Om} {c c' : Cx N} {ρ : Loc N} {σ : Sto N} {Q X : V N → Sto N → Prop}
/-- [f() for i in range(..)]: with what each makes -/
theorem items_rng {i : Nat} {elt : ME} {K : Sto N → Prop} (f : Nat → V N) (I : Nat → Sto N → Prop) (hK : ∀ σ, K σ) (m : Nat) (hm : m < 1000)
    (step : ∀ k (ρ' : Loc N) σ (R : V N → Sto N → Prop), k < m → I k σ → (∀ σ', I (k + 1) σ' → R (f k) σ') → AE O c' elt (ρ'.upd i (.int (k : Int))) σ R X) : ∀ (n k : Nat) (ρ : Loc N) (σ : Sto N) (Q : List (V N) → Loc N → Sto N → Prop), k + n = m → I k σ → (∀ ρ' σ', I m σ' → Q ((List.range m).map f) ρ' σ') →
    itemsW O c' X (.loc i) [] (innerW O c' X elt []) K (rngL (k : Int) 1 n) ((List.range k).map f) ρ σ Q
  | 0, k, ρ, σ, Q, e, hI, h => by
    have : k = m := by omega
    subst this
    exact h ρ σ hI
  | n + 1, k, ρ, σ, Q, e, hI, h => by
    refine ATg.loc ⟨by simp; omega, step k ρ σ _ (by omega) hI fun σ' hI' => ⟨hK σ', ?_⟩⟩
    have := items_rng f I hK m hm step n (k + 1) (ρ.upd i (.int (k : Int))) σ' Q (by omega) hI' h
    rw [List.range_succ, List.map_append] at this
    exact this
end
structure Init (σ : Sto N5) : Prop where
  c2 : σ (.g 2) = some (.cell Option.none)
  c3 : σ (.g 3) = some (.cell Option.none)
  c4 : σ (.g 4) = some (.cell Option.none)
  c5 : σ (.g 5) = some (.cell Option.none)
  c6 : σ (.g 6) = some (.cell Option.none)
  c7 : σ (.g 7) = some (.cell Option.none)
  c8 : σ (.g 8) = some (.cell Option.none)
  gn : ∀ k, k < 2 ∨ 8 < k → σ (.g k) = Option.none
  on : ∀ k i, σ (.o k i) = Option.none
structure Raw (σ : Sto N5) (i : Nat) : Prop extends Base σ i where
  m : σ (.o 0 i) = some (tmO .none (.o 1 i))
  no : ∀ k, 3 ≤ k → σ (.o k i) = Option.none
theorem Raw.same {σ σ' : Sto N5} {i : Nat} (h : Raw σ i) (e : ∀ k, σ' (.o k i) = σ (.o k i)) : Raw σ' i := ⟨⟨(e _).trans h.w, (e _).trans h.d⟩, (e _).trans h.m, fun k a => (e _).trans (h.no k a)⟩
structure Consts (ns : List Nat) (σ : Sto N5) : Prop extends CellsOk σ where
  c5 : σ (.g 5) = some (.cell (some (.ref (.g 12))))
  l9 : σ (.g 9) = some (.list (upto (fun i => natsV (needsAt ns i)) 6))
  l10 : σ (.g 10) = some (.list (upto (fun i => natsV (askedAt ns i)) 6))
  l11 : σ (.g 11) = some (.list (upto (fun i => .int (kindAt ns i)) 6))
  l12 : σ (.g 12) = some (.list (upto (fun i => .int (rootsOf ns i)) 6))
  c8 : σ (.g 8) = some (.cell Option.none)
  n15 : σ (.g 15) = Option.none
theorem Consts.same {ns : List Nat} {σ σ' : Sto N5} (h : Consts ns σ) (e : ∀ k, 2 ≤ k → k ≠ 6 → k ≠ 13 → k ≠ 14 → σ' (.g k) = σ (.g k)) : Consts ns σ' where
  want := (e _ (by omega) (by omega) (by omega) (by omega)).trans h.want
  ends := (e _ (by omega) (by omega) (by omega) (by omega)).trans h.ends
  cens := (e _ (by omega) (by omega) (by omega) (by omega)).trans h.cens
  c5 := (e _ (by omega) (by omega) (by omega) (by omega)).trans h.c5
  l9 := (e _ (by omega) (by omega) (by omega) (by omega)).trans h.l9
  l10 := (e _ (by omega) (by omega) (by omega) (by omega)).trans h.l10
  l11 := (e _ (by omega) (by omega) (by omega) (by omega)).trans h.l11
  l12 := (e _ (by omega) (by omega) (by omega) (by omega)).trans h.l12
  c8 := (e _ (by omega) (by omega) (by omega) (by omega)).trans h.c8
  n15 := (e _ (by omega) (by omega) (by omega) (by omega)).trans h.n15
structure R2 (ns : List Nat) (ρ : Loc N5) : Prop extends R1 ns ρ where
  r11 : ρ 11 = some (.ref (.g 0))
  r12 : ρ 12 = some needV
  r13 : ρ 13 = some (.ref (.g 13))
  r14 : ρ 14 = some (.ref (.g 14))
structure Bld (ns : List Nat) (k : Nat) (σ : Sto N5) : Prop extends Consts ns σ where
  log : σ (.g 0) = some (.list [])
  dic : σ (.g 1) = some (.dict [] [])
  c6 : ∃ v, σ (.g 6) = some (.cell v)
  par : σ (.g 13) = some (.list ((List.range k).flatMap fun i => [.ref (.o 12 i), .ref (.o 13 i)]))
  txs : σ (.g 14) = some (.list (upto (fun i => .ref (.o 3 i)) k))
  fresh : ∀ i, i < k → Fresh (planOf ns) σ i
  raw : ∀ i, k ≤ i → i < 6 → Raw σ i
section
variable {O : Om} {c : Cx N5} {ρ : Loc N5} {σ σ₀ : Sto N5} {Q X : V N5 → Sto N5 → Prop}
theorem law_setup (S : StL O) (L : LawCx c) {ns : List Nat} (r : R1 ns ρ) (H : L1 ns 6 σ₀ σ) (I0 : Init σ₀) {ms : List MS} {Q : AF N5 → Loc N5 → Sto N5 → Prop} {X : V N5 → Loc N5 → Sto N5 → Prop} (h : ∀ ρ' σ', R2 ns ρ' → Bld ns 0 σ' → AX O c ms ρ' σ' Q X) :
    AX O c (lw7 :: lw8 :: lw9 :: lw10 :: lw11 :: lw12 :: lw13 :: ms) ρ σ Q X := by
  obtain ⟨r1, r2, r3, r4⟩ := r
  obtain ⟨c5, ⟨v6, c6⟩, ⟨v7, c7⟩, l9, l10, l11, l12, off⟩ := H
  have hD := L.D
  have gn : ∀ k, k < 2 ∨ 12 < k → σ (.g k) = Option.none := fun k hk => (off _ (by simp; omega)).trans (I0.gn k (by omega))
  have on : ∀ k i, σ (.o k i) = Option.none := fun k i => (off _ (by simp)).trans (I0.on k i)
  have c2 := (off (.g 2) (by simp)).trans I0.c2
  have c3 := (off (.g 3) (by simp)).trans I0.c3
  have c4 := (off (.g 4) (by simp)).trans I0.c4
  have c8 := (off (.g 8) (by simp)).trans I0.c8
  have n0 := gn 0 (by omega)
  have n1 := gn 1 (by omega)
  have n13 := gn 13 (by omega)
  have n14 := gn 14 (by omega)
  have n15 := gn 15 (by omega)
  refine AX.cons (AS.asg (AE.lstN (.g 0) (AEl.nil ⟨by simp, n0, ATg.loc ?_⟩)))
  refine AX.cons (AS.asg (AE.dct0N (.g 1) (by kpt_eq) (ATg.cel L.k25 (by kpt_eq) ?_)))
  refine AX.cons (AS.asgCc S.ok (AE.comp S.ok L.good (by rfl) ?_))
  repeat kpc_signs
  refine PC.range1 ⟨_, rfl, ?_⟩
  refine items_rng (f := fun k => .ref (.o 0 k)) (fun k σ' => (∀ j, σ' (.g j) = ((((σ.set (.g 0) (.list [])).set (.g 1) (.dict [] [])).set (.g 3) (.cell (some (.ref (.g 1)))))) (.g j)) ∧ (∀ i, i < k → Raw σ' i) ∧ ∀ i j, k ≤ i → σ' (.o j i) = Option.none) (fun _ => rfl) 6 (by omega) (fun k ρ' σ' R hk hI hR => ?_) 6 0 _ _ _ rfl ⟨fun j => rfl, fun i hi => by omega, fun i j _ => (Sto.set_ne (by simp)).trans ((Sto.set_ne (by simp)).trans ((Sto.set_ne (by simp)).trans (on j i)))⟩ fun ρ' σ' hI => ?_
  · obtain ⟨g1, g2, g3⟩ := hI
    repeat kpc_signs
    refine PCc.pc (tm_make S (m := .o 0 k) (w := .o 1 k) (d := .o 2 k) (by show 4 ≤ c.D; omega) (g3 k 0 (by omega)) (g3 k 1 (by omega)) (g3 k 2 (by omega)) (by simp) (by simp) (by simp) fun σ'' q0 q1 q2 q3 => ?_)
    refine hR σ'' ⟨fun j => (q3 _ (by simp) (by simp) (by simp)).trans (g1 j), fun i hi => ?_, fun i j hi => (q3 _ (by simp; omega) (by simp; omega) (by simp; omega)).trans (g3 i j (by omega))⟩
    by_cases e : i = k
    · subst e
      exact ⟨⟨q1, q2⟩, q0, fun j hj => (q3 _ (by simp; omega) (by simp; omega) (by simp; omega)).trans (g3 i j (by omega))⟩
    · exact (g2 i (by omega)).same fun j => q3 _ (by simp [e]) (by simp [e]) (by simp [e])
  · obtain ⟨g1, g2, g3⟩ := hI
    have k4 : σ' (.g 4) = some (.cell Option.none) := by rw [g1]; kpt_eq
    have k2 : σ' (.g 2) = some (.cell Option.none) := by rw [g1]; kpt_eq
    have k13 : σ' (.g 13) = Option.none := by rw [g1]; kpt_eq
    have k14 : σ' (.g 14) = Option.none := by rw [g1]; kpt_eq
    refine ATg.cel L.k24 k4 ?_
    refine AX.cons (AS.defC S.ok L.nest (vs := [.cel (.g 3), .cel (.g 4)]) (by simp [L.k24, L.k25]) L.k23 (by kpt_eq) ?_)
    refine AX.cons (AS.defL S.ok L.nest (vs := [.cel (.g 2)]) (by simp [L.k23]) ?_)
    refine AX.cons (AS.asg (AE.lstN (.g 13) (AEl.nil ⟨by simp, by kpt_eq, ATg.loc ?_⟩)))
    refine AX.cons (AS.asg (AE.lstN (.g 14) (AEl.nil ⟨by simp, by kpt_eq, ATg.loc ?_⟩)))
    have e0 : σ' (.g 0) = some (.list []) := by rw [g1]; kpt_eq
    have e1 : σ' (.g 1) = some (.dict [] []) := by rw [g1]; kpt_eq
    have e3 : σ' (.g 3) = some (.cell (some (.ref (.g 1)))) := by rw [g1]; kpt_eq
    have e5 : σ' (.g 5) = some (.cell (some (.ref (.g 12)))) := by rw [g1]; kpt_eq
    have e6 : σ' (.g 6) = some (.cell v6) := by rw [g1]; kpt_eq
    have e8 : σ' (.g 8) = some (.cell Option.none) := by rw [g1]; kpt_eq
    have e9 := g1 9
    have e10 := g1 10
    have e11 := g1 11
    have e12 := g1 12
    have e15 : σ' (.g 15) = Option.none := by rw [g1]; kpt_eq
    rw [Sto.set_ne (by simp), Sto.set_ne (by simp), Sto.set_ne (by simp)] at e9 e10 e11 e12
    have up : ∀ (o1 o2 o3 o4 : AO N5) k i, ((((σ'.set (.g 4) o1).set (.g 2) o2).set (.g 13) o3).set (.g 14) o4) (.o k i) = σ' (.o k i) := fun o1 o2 o3 o4 k i => (Sto.set_ne (by simp)).trans ((Sto.set_ne (by simp)).trans ((Sto.set_ne (by simp)).trans (Sto.set_ne (by simp))))
    refine h _ _ ⟨⟨r1, r2, r3, r4⟩, rfl, rfl, rfl, rfl⟩ ⟨⟨⟨by kpt_eq, by kpt_eq, by kpt_eq⟩, by kpt_eq, ?_, ?_, ?_, ?_, by kpt_eq, by kpt_eq⟩, by kpt_eq, by kpt_eq, ⟨v6, by kpt_eq⟩, by kpt_eq, by kpt_eq, fun i hi => by omega, fun i _ hi => (g2 i hi).same fun k => up _ _ _ _ k i⟩
    · exact (Sto.set_ne (by simp)).trans ((Sto.set_ne (by simp)).trans ((Sto.set_ne (by simp)).trans ((Sto.set_ne (by simp)).trans (e9.trans l9))))
    · exact (Sto.set_ne (by simp)).trans ((Sto.set_ne (by simp)).trans ((Sto.set_ne (by simp)).trans ((Sto.set_ne (by simp)).trans (e10.trans l10))))
    · exact (Sto.set_ne (by simp)).trans ((Sto.set_ne (by simp)).trans ((Sto.set_ne (by simp)).trans ((Sto.set_ne (by simp)).trans (e11.trans l11))))
    · exact (Sto.set_ne (by simp)).trans ((Sto.set_ne (by simp)).trans ((Sto.set_ne (by simp)).trans ((Sto.set_ne (by simp)).trans (e12.trans l12))))
end
section
variable {O : Om} {c : Cx N5} {ρ : Loc N5} {σ σ₀ : Sto N5} {Q X : V N5 → Sto N5 → Prop} {syn man ad vo ex ft : V N5} {res bc ac ba aa : N5}
abbrev oneBody : List MS := [.asg [(.loc 17)] (.call (.st g_Manager) [(.tup [(.cel 6), (.loc 16)]), (.bin .Add (.str ("k" : Str)) (.call (.st g_str) [(.bin .Sub (.int (1)) (.loc 16))] [] [])), (.ite (.bop .And [(.cmp (.sub (.loc 4) (.cel 6)) [.Eq] [(.int (1))]), (.cmp (.loc 16) [.Eq] [(.int (0))])]) (.dct [(.str ("tpc_vote" : Str))] [(.int (1))]) (.dct [] [])), (.loc 11)] [] []),
    .expr (.mcall (.loc 15) ("join" : Str) [(.loc 17)] [] []),
    .asg [(.attr (.loc 17) ("value" : Str))] (.bin .Add (.int (7)) (.cel 6)),
    .expr (.mcall (.loc 13) ("append" : Str) [(.loc 17)] [] [])]
abbrev oneTail : List MS := [.expr (.mcall (.loc 15) ("join" : Str) [(.loc 17)] [] []),
    .asg [(.attr (.loc 17) ("value" : Str))] (.bin .Add (.int (7)) (.cel 6)),
    .expr (.mcall (.loc 13) ("append" : Str) [(.loc 17)] [] [])]
abbrev planE : ME := .ite (.bop .And [(.cmp (.sub (.loc 4) (.cel 6)) [.Eq] [(.int (1))]), (.cmp (.loc 16) [.Eq] [(.int (0))])]) (.dct [(.str ("tpc_vote" : Str))] [(.int (1))]) (.dct [] [])
theorem plan_val (S : StL O) (L : LawCx c) {ns : List Nat} {k q : Nat} (hk : k < 6) (r4 : ρ 4 = some (.ref (.g 11))) (r16 : ρ 16 = some (.int (q : Int))) (c6 : σ (.g 6) = some (.cell (some (.int (k : Int))))) (l11 : σ (.g 11) = some (.list (upto (fun i => .int (kindAt ns i)) 6))) (h : Q (.dct (((planOf ns).pks k q).map V.str) ((planOf ns).pvs k q)) σ) : AE O c planE ρ σ Q X := by
  refine AE.ite ?_
  repeat kpc_signs
  refine PI.lst rfl (items_ref l11) (upto_at hk) (by omega) ?_
  repeat kpc_signs
  have hkk : (planOf ns).kind k = kindAt ns k := rfl
  unfold Plan.pks Plan.pvs at h
  rw [hkk] at h
  by_cases hk1 : kindAt ns k = 1
  · rw [show (kindAt ns k == 1) = true from beq_iff_eq.mpr hk1]
    repeat kpc_signs
    by_cases hq : q = 0
    · subst hq
      repeat kpc_signs
      refine AE.dct1 S.ok ?_
      rw [if_pos ⟨hk1, rfl⟩, if_pos ⟨hk1, rfl⟩] at h
      exact h
    · rw [show ((q : Int) == 0) = false from beq_eq_false_iff_ne.mpr (by omega)]
      repeat kpc_signs
      rw [if_neg (fun e => hq e.2), if_neg (fun e => hq e.2)] at h
      exact h
  · rw [show (kindAt ns k == 1) = false from beq_eq_false_iff_ne.mpr hk1]
    repeat kpc_signs
    rw [if_neg (fun e => hk1 e.1), if_neg (fun e => hk1 e.1)] at h
    exact h
theorem make_one (S : StL O) (L : LawCx c) {ns : List Nat} {k q : Nat} (hk : k < 6) (hq : q = 0 ∨ q = 1) {rs ps : List (V N5)} (r4 : ρ 4 = some (.ref (.g 11))) (r11 : ρ 11 = some (.ref (.g 0))) (r13 : ρ 13 = some (.ref (.g 13))) (r15 : ρ 15 = some (.ref (.o 3 k))) (r16 : ρ 16 = some (.int (q : Int))) (c6 : σ (.g 6) = some (.cell (some (.int (k : Int))))) (l11 : σ (.g 11) = some (.list (upto (fun i => .int (kindAt ns i)) 6)))
    (ht : σ (.o 3 k) = some (txnO (.st s_ACTIVE) syn man ad vo ex ft (.o 4 k) bc ac ba aa)) (hr : σ (.o 4 k) = some (.list rs)) (hz : rs.length < 1000) (hp : σ (.g 13) = some (.list ps)) (hz2 : ps.length < 1000) (hn : σ (.o (12 + q) k) = Option.none)
    {Q : AF N5 → Loc N5 → Sto N5 → Prop} {X : V N5 → Loc N5 → Sto N5 → Prop}
    (h : ∀ σ', σ' (.o (12 + q) k) = some (((planOf ns).pr k q).obj (.g 0)) → σ' (.o 4 k) = some (.list (rs ++ [.ref (.o (12 + q) k)])) → σ' (.g 13) = some (.list (ps ++ [.ref (.o (12 + q) k)])) → (∀ n, n ≠ .o (12 + q) k → n ≠ .o 4 k → n ≠ .g 13 → σ' n = σ n) → Q .next (ρ.upd 17 (.ref (.o (12 + q) k))) σ') :
    AX O c oneBody ρ σ Q X := by
  have hD := L.D
  repeat kpc_signs
  refine P2.sub ?_
  repeat kpc_signs
  have fin : PC O c (.st g_Manager) [whoV k q, .str (kkey q), .dct (((planOf ns).pks k q).map V.str) ((planOf ns).pvs k q), .ref (.g 0)] [] [] ρ σ (fun v σ₁ => ATg O c (.loc 17) v ρ σ₁ (fun ρ₂ σ₂ => AX O c oneTail ρ₂ σ₂ Q X) X) (fun v σ₁ => X v ρ σ₁) := by
    refine PCc.pc (pm_make S (by show 2 ≤ c.D; omega) hn fun σ' q0 q1 => ATg.loc ?_)
    have t1 := (q1 (.o 3 k) (by simp; omega)).trans ht
    have r1 := (q1 (.o 4 k) (by simp; omega)).trans hr
    have p1 := (q1 (.g 13) (by simp)).trans hp
    have c1 := (q1 (.g 6) (by simp)).trans c6
    have ne1 : N5.o (12 + q) k ≠ .o 4 k := by simp; omega
    have ne2 : N5.o (12 + q) k ≠ .g 13 := by simp
    repeat kpc_signs
    refine PCc.pc (txn_join S (by show 1 ≤ c.D; omega) t1 r1 (by omega) ?_)
    repeat kpc_signs
    refine P2.add ?_
    repeat kpc_signs
    refine PM.append (by kpt_eq) ?_
    repeat kpc_signs
    refine PC.append (by kpt_eq) (by omega) ?_
    repeat kpc_signs
    refine h _ (by kpt_eq) (by kpt_eq) (by kpt_eq) fun n n1 n2 n3 => ?_
    rw [Sto.set_ne n3, Sto.set_ne n1, Sto.set_ne n2]
    exact q1 n n1
  rcases hq with rfl | rfl
  · refine PC.str (by decide) ?_
    refine P2.addS (by decide +kernel) ?_
    refine AEl.cons (plan_val S L hk r4 r16 c6 l11 ?_)
    repeat kpc_signs
    exact fin
  · refine PC.str (by decide) ?_
    refine P2.addS (by decide +kernel) ?_
    refine AEl.cons (plan_val S L hk r4 r16 c6 l11 ?_)
    repeat kpc_signs
    exact fin
end
section
variable {O : Om} {c : Cx N5} {ρ : Loc N5} {σ σ₀ : Sto N5} {Q X : V N5 → Sto N5 → Prop} {syn man ad vo ex ft st : V N5} {res bc ac ba aa : N5}
theorem hooks_loop (S : StL O) (L : LawCx c) {ns : List Nat} {k : Nat} (hk : k < 6) (r2 : ρ 2 = some (.ref (.g 9))) (r12 : ρ 12 = some needV) (r15 : ρ 15 = some (.ref (.o 3 k))) (c6 : σ (.g 6) = some (.cell (some (.int (k : Int))))) (l9 : σ (.g 9) = some (.list (upto (fun i => natsV (needsAt ns i)) 6)))
    (ht : σ (.o 3 k) = some (txnO st syn man ad vo ex ft res (.o 5 k) ac ba aa)) (hb : σ (.o 5 k) = some (.list []))
    {Q : AF N5 → Loc N5 → Sto N5 → Prop} {X : V N5 → Loc N5 → Sto N5 → Prop}
    (h : ∀ ρ' σ', (∀ j, j ≠ 9 → ρ' j = ρ j) → σ' (.o 5 k) = some (.list (((planOf ns).hooks k).map HK.v)) → (∀ n, n ≠ .o 5 k → σ' n = σ n) → Q .next ρ' σ') :
    AS O c (.for (.loc 9) (.sub (.loc 2) (.cel 6)) [.expr (.mcall (.loc 15) ("addBeforeCommitHook" : Str) [(.loc 12), (.tup [(.loc 9)])] [] [])]) ρ σ Q X := by
  have hD := L.D
  have hlen := needs_len (ns := ns) (i := k)
  refine AS.forL L.good ?_
  repeat kpc_signs
  refine PI.lst rfl (items_ref l9) (upto_at hk) (by omega) ⟨(needsAt ns k).map nv, .inl rfl, rfl, ?_⟩
  refine ForL.ind (fun rest ρ' σ' => (∀ j, j ≠ 9 → ρ' j = ρ j) ∧ ∃ done todo, needsAt ns k = done ++ todo ∧ rest = todo.map nv ∧ σ' (.o 5 k) = some (.list (done.map fun j : Nat => HK.v ((needV, [.int (j : Int)], .dct [] []) : HK N5))) ∧ ∀ n, n ≠ .o 5 k → σ' n = σ n) (fun ρ' σ' hI => ?_) (fun v r ρ' σ' hI => ?_) _ _ _ ⟨fun _ _ => rfl, [], needsAt ns k, rfl, rfl, hb, fun _ _ => rfl⟩
  · obtain ⟨q1, done, todo, e1, e2, e3, e4⟩ := hI
    have : todo = [] := by cases todo with | nil => rfl | cons _ _ => cases e2
    subst this
    rw [List.append_nil] at e1
    refine h ρ' σ' q1 ?_ e4
    have e5 : ((planOf ns).hooks k).map HK.v = (needsAt ns k).map fun j : Nat => HK.v ((needV, [.int (j : Int)], .dct [] []) : HK N5) := by
      show ((needsAt ns k).map _).map HK.v = _
      rw [List.map_map]; rfl
    rw [e3, e5, e1]
  · obtain ⟨q1, done, todo, e1, e2, e3, e4⟩ := hI
    cases todo with
    | nil => cases e2
    | cons j todo =>
      rw [List.map_cons, List.cons.injEq] at e2
      obtain ⟨rfl, rfl⟩ := e2
      have a12 := (q1 12 (by omega)).trans r12
      have a15 := (q1 15 (by omega)).trans r15
      have t1 := (e4 (.o 3 k) (by simp)).trans ht
      have hlen2 : done.length ≤ (needsAt ns k).length := by rw [e1]; simp
      repeat kpc_signs
      refine PCc.pc (txn_addHook S (by show 1 ≤ c.D; omega) t1 e3 (by rw [List.length_map]; omega) ?_)
      repeat kpc_signs
      refine ⟨rfl, fun i hi => by rw [← q1 i hi]; exact if_neg hi, done ++ [j], todo, by rw [e1]; simp, rfl, ?_, fun n hn => (Sto.set_ne hn).trans (e4 n hn)⟩
      rw [Sto.set_self, List.map_append]; rfl
theorem par_len : ∀ k : Nat, ((List.range k).flatMap fun i => [V.ref (N5.o 12 i), .ref (.o 13 i)]).length = 2 * k
  | 0 => rfl
  | k + 1 => by rw [List.range_succ, List.flatMap_append, List.length_append, par_len k]; simp; omega
theorem bld_step {ns : List Nat} {k : Nat} {σ' : Sto N5} (hk : k < 6) (H : Bld ns k σ) (F : Fresh (planOf ns) σ' k) (c6 : ∃ v, σ' (.g 6) = some (.cell v)) (hp : σ' (.g 13) = some (.list (((List.range k).flatMap fun i => [V.ref (.o 12 i), .ref (.o 13 i)]) ++ [.ref (.o 12 k), .ref (.o 13 k)]))) (ht : σ' (.g 14) = some (.list (upto (fun i => .ref (.o 3 i)) (k + 1))))
    (off : ∀ n, (∀ j, n ≠ .o j k) → n ≠ .g 6 → n ≠ .g 13 → n ≠ .g 14 → σ' n = σ n) : Bld ns (k + 1) σ' where
  toConsts := H.toConsts.same fun j _ h6 h13 h14 => off _ (by simp) (by simp; omega) (by simp; omega) (by simp; omega)
  log := (off _ (by simp) (by simp) (by simp) (by simp)).trans H.log
  dic := (off _ (by simp) (by simp) (by simp) (by simp)).trans H.dic
  c6 := c6
  par := by rw [hp, List.range_succ, List.flatMap_append]; rfl
  txs := ht
  fresh := fun i hi => by
    by_cases e : i = k
    · exact e ▸ F
    · exact (H.fresh i (by omega)).same fun j => off _ (by simp [e]) (by simp) (by simp) (by simp)
  raw := fun i h1 h2 => (H.raw i (by omega) h2).same fun j => off _ (by simp; omega) (by simp) (by simp) (by simp)
theorem loop14 (S : StL O) (L : LawCx c) {ns : List Nat} (r : R2 ns ρ) (H : Bld ns 0 σ) {Q : AF N5 → Loc N5 → Sto N5 → Prop} {X : V N5 → Loc N5 → Sto N5 → Prop} (h : ∀ ρ' σ', R2 ns ρ' → Bld ns 6 σ' → Q .next ρ' σ') : AS O c lw14 ρ σ Q X := by
  have hD := L.D
  refine AS.forR L.good ?_
  repeat kpc_signs
  refine PC.range1 ⟨0, 6, 1, 6, rfl, rfl, ?_⟩
  refine ForR.up (fun k ρ σ => R2 ns ρ ∧ Bld ns k σ) 6 (fun ρ σ q => h ρ σ q.1 q.2) (fun k ρ σ hk ⟨r, H⟩ => ?_) 6 0 ρ σ rfl ⟨r, H⟩
  obtain ⟨⟨r1, r2, r3, r4⟩, r11, r12, r13, r14⟩ := r
  obtain ⟨Cs, log, dic, ⟨v6, c6⟩, par, txs, fresh, raw⟩ := H
  have g4 := Cs.cens
  have l9 := Cs.l9
  have l11 := Cs.l11
  have Rk := raw k (Nat.le_refl _) hk
  have hm := Rk.m
  repeat kpc_signs
  refine PI.lst rfl rfl (center_at hk) (by omega) ?_
  repeat kpc_signs
  have no := Rk.no
  have off0 : ∀ {n o}, n ≠ .g 6 → σ n = o → (σ.set (.g 6) (.cell (some (.int (k : Int))))) n = o := fun {n o} e1 e2 => (Sto.set_ne e1).trans e2
  refine PCc.pc (tm_begin S (m := .o 0 k) (w := .o 1 k) (d := .o 2 k) (t := .o 3 k) (res := .o 4 k) (bc := .o 5 k) (ac := .o 6 k) (ba := .o 7 k) (aa := .o 8 k) (by show 4 ≤ c.D; omega) (off0 (by simp) hm) (off0 (by simp) Rk.w) (off0 (by simp) Rk.d) (off0 (by simp) (no 3 (by omega))) (off0 (by simp) (no 4 (by omega))) (off0 (by simp) (no 5 (by omega))) (off0 (by simp) (no 6 (by omega))) (off0 (by simp) (no 7 (by omega))) (off0 (by simp) (no 8 (by omega))) (by simp) fun σ₁ q0 q1 q2 q3 q4 q5 q6 q7 => ?_)
  have up1 : ∀ n, n ∉ [N5.o 0 k, .o 3 k, .o 4 k, .o 5 k, .o 6 k, .o 7 k, .o 8 k, .g 6] → σ₁ n = σ n := fun n hn => by
    simp only [List.mem_cons, not_or, List.not_mem_nil, not_false_eq_true, and_true] at hn
    obtain ⟨x1, x2, x3, x4, x5, x6, x7, x8⟩ := hn
    exact (q7 n (by simp only [List.mem_cons, not_or, List.not_mem_nil, not_false_eq_true, and_true]; exact ⟨x1, x2, x3, x4, x5, x6, x7⟩)).trans (Sto.set_ne x8)
  have s6 : σ₁ (.g 6) = some (.cell (some (.int (k : Int)))) := (q7 (.g 6) (by simp)).trans Sto.set_self
  have s14 := (up1 (.g 14) (by simp)).trans txs
  repeat kpc_signs
  refine PM.append s14 ?_
  repeat kpc_signs
  refine PC.append s14 (by rw [upto_len]; omega) ?_
  rw [← upto_succ (f := fun i => .ref (.o 3 i))]
  refine AX.cons (AS.forL L.good ?_)
  repeat kpc_signs
  refine ⟨[.int 0, .int 1], .inr rfl, rfl, ?_⟩
  have s11 := (up1 (.g 11) (by simp)).trans l11
  have s9 := (up1 (.g 9) (by simp)).trans l9
  have s13 := (up1 (.g 13) (by simp)).trans par
  have n12 := (up1 (.o 12 k) (by simp)).trans (no 12 (by omega))
  have n13 := (up1 (.o 13 k) (by simp)).trans (no 13 (by omega))
  have hlen := par_len k
  refine ATg.loc ?_
  refine make_one S L (q := 0) hk (.inl rfl) (by exact r4) (by exact r11) (by exact r13) (by rfl) (by rfl) (by kpt_eq) (by kpt_eq) ((Sto.set_ne (by simp)).trans q1) ((Sto.set_ne (by simp)).trans q2) (by simp) (by kpt_eq) (by rw [hlen]; omega) (by kpt_eq) fun σ₂ p1 p2 p3 p4 => ⟨rfl, ?_⟩
  have k2 : ∀ n, n ≠ .o 12 k → n ≠ .o 4 k → n ≠ .g 13 → n ≠ .g 14 → σ₂ n = σ₁ n := fun n x1 x2 x3 x4 => (p4 n x1 x2 x3).trans (Sto.set_ne x4)
  refine ATg.loc ?_
  refine make_one S L (q := 1) hk (.inr rfl) (by exact r4) (by exact r11) (by exact r13) (by rfl) (by rfl) ((k2 _ (by simp) (by simp) (by simp) (by simp)).trans s6) ((k2 _ (by simp) (by simp) (by simp) (by simp)).trans s11) ((k2 _ (by simp) (by simp) (by simp) (by simp)).trans q1) p2 (by simp) p3 (by rw [List.length_append, hlen]; simp; omega) ((k2 _ (by simp) (by simp) (by simp) (by simp)).trans n13) fun σ₃ t1 t2 t3 t4 => ⟨rfl, ?_⟩
  have k3 : ∀ n, n ≠ .o 12 k → n ≠ .o 13 k → n ≠ .o 4 k → n ≠ .g 13 → n ≠ .g 14 → σ₃ n = σ₁ n := fun n x1 x1' x2 x3 x4 => (t4 n x1' x2 x3).trans (k2 n x1 x2 x3 x4)
  have g6 := (k3 (.g 6) (by simp) (by simp) (by simp) (by simp) (by simp)).trans s6
  have g9 := (k3 (.g 9) (by simp) (by simp) (by simp) (by simp) (by simp)).trans s9
  have g11 := (k3 (.g 11) (by simp) (by simp) (by simp) (by simp) (by simp)).trans s11
  have g14 : σ₃ (.g 14) = some (.list (upto (fun i => .ref (.o 3 i)) (k + 1))) := (t4 _ (by simp) (by simp) (by simp)).trans ((p4 _ (by simp) (by simp) (by simp)).trans Sto.set_self)
  have gt := (k3 (.o 3 k) (by simp) (by simp) (by simp) (by simp) (by simp)).trans q1
  have g5 := (k3 (.o 5 k) (by simp) (by simp) (by simp) (by simp) (by simp)).trans q3
  refine AX.cons (hooks_loop S L hk (by exact r2) (by exact r12) (by rfl) g6 g9 gt g5 fun ρ₄ σ₄ u1 u2 u3 => ?_)
  have v4 : ρ₄ 4 = some (.ref (.g 11)) := (u1 4 (by omega)).trans r4
  have v15 : ρ₄ 15 = some (.ref (.o 3 k)) := (u1 15 (by omega)).trans rfl
  have h6 := (u3 (.g 6) (by simp)).trans g6
  have h11 := (u3 (.g 11) (by simp)).trans g11
  have ht := (u3 (.o 3 k) (by simp)).trans gt
  have k4 : ∀ n, n ≠ .o 12 k → n ≠ .o 13 k → n ≠ .o 4 k → n ≠ .o 5 k → n ≠ .g 13 → n ≠ .g 14 → σ₄ n = σ₁ n := fun n x1 x1' x2 x5 x3 x4 => (u3 n x5).trans (k3 n x1 x1' x2 x3 x4)
  have R' : ∀ σ₅ : Sto N5, (∀ n, n ≠ .o 3 k → σ₅ n = σ₄ n) → σ₅ (.o 3 k) = some (votedO (.st (if (planOf ns).kind k = 2 then s_DOOMED else s_ACTIVE)) (.ref (.o 1 k)) (.ref (.o 0 k)) (.dct [] []) (.dct [] []) .none (.o 4 k) (.o 5 k) (.o 6 k) (.o 7 k) (.o 8 k) []) → R2 ns ρ₄ ∧ Bld ns (k + 1) σ₅ := fun σ₅ e1 e2 => by
    have k5 : ∀ n, n ≠ .o 3 k → n ≠ .o 12 k → n ≠ .o 13 k → n ≠ .o 4 k → n ≠ .o 5 k → n ≠ .g 13 → n ≠ .g 14 → σ₅ n = σ₁ n := fun n x0 x1 x1' x2 x5 x3 x4 => (e1 n x0).trans (k4 n x1 x1' x2 x5 x3 x4)
    refine ⟨⟨⟨(u1 1 (by omega)).trans r1, (u1 2 (by omega)).trans r2, (u1 3 (by omega)).trans r3, v4⟩, (u1 11 (by omega)).trans r11, (u1 12 (by omega)).trans r12, (u1 13 (by omega)).trans r13, (u1 14 (by omega)).trans r14⟩, ?_⟩
    refine bld_step hk ⟨Cs, log, dic, ⟨v6, c6⟩, par, txs, fresh, raw⟩ ⟨⟨?_, ?_⟩, ?_, e2, ?_, ?_, ?_, ?_, ?_, ?_, ?_, fun j x1 x2 x3 => ?_⟩ ⟨_, (k5 _ (by simp) (by simp) (by simp) (by simp) (by simp) (by simp) (by simp)).trans s6⟩ ?_ ?_ fun n x1 x2 x3 x4 => ?_
    · exact (k5 _ (by simp) (by simp) (by simp) (by simp) (by simp) (by simp) (by simp)).trans ((up1 _ (by simp)).trans Rk.w)
    · exact (k5 _ (by simp) (by simp) (by simp) (by simp) (by simp) (by simp) (by simp)).trans ((up1 _ (by simp)).trans Rk.d)
    · exact (k5 _ (by simp) (by simp) (by simp) (by simp) (by simp) (by simp) (by simp)).trans q0
    · exact (e1 _ (by simp)).trans ((u3 _ (by simp)).trans t2)
    · exact (e1 _ (by simp)).trans u2
    · exact (k5 _ (by simp) (by simp) (by simp) (by simp) (by simp) (by simp) (by simp)).trans q4
    · exact (k5 _ (by simp) (by simp) (by simp) (by simp) (by simp) (by simp) (by simp)).trans q5
    · exact (k5 _ (by simp) (by simp) (by simp) (by simp) (by simp) (by simp) (by simp)).trans q6
    · exact (e1 _ (by simp)).trans ((u3 _ (by simp)).trans ((t4 _ (by simp) (by simp) (by simp)).trans p1))
    · exact (e1 _ (by simp)).trans ((u3 _ (by simp)).trans t1)
    · exact (k5 _ (by simp; omega) (by simp; omega) (by simp; omega) (by simp; omega) (by simp; omega) (by simp) (by simp)).trans ((up1 _ (by simp; omega)).trans (no j (by omega)))
    · refine (e1 _ (by simp)).trans ((u3 _ (by simp)).trans (t3.trans ?_))
      rw [List.append_assoc]; rfl
    · exact (e1 _ (by simp)).trans ((u3 _ (by simp)).trans g14)
    · exact (k5 n (x1 _) (x1 _) (x1 _) (x1 _) (x1 _) x3 x4).trans (up1 n (by simp only [List.mem_cons, not_or, List.not_mem_nil, not_false_eq_true, and_true]; exact ⟨x1 _, x1 _, x1 _, x1 _, x1 _, x1 _, x1 _, x2⟩))
  repeat kpc_signs
  refine PI.lst rfl (items_ref h11) (upto_at hk) (by omega) ?_
  repeat kpc_signs
  have hkk : (planOf ns).kind k = kindAt ns k := rfl
  by_cases hk2 : kindAt ns k = 2
  · rw [show (kindAt ns k == 2) = true from beq_iff_eq.mpr hk2]
    repeat kpc_signs
    refine PCc.pc (txn_doom S (by show 1 ≤ c.D; omega) ht ?_)
    repeat kpc_signs
    refine R' _ (fun n hn => Sto.set_ne hn) ?_
    rw [Sto.set_self, hkk, if_pos hk2]; rfl
  · rw [show (kindAt ns k == 2) = false from beq_eq_false_iff_ne.mpr hk2]
    repeat kpc_signs
    refine R' _ (fun n hn => rfl) ?_
    rw [ht, hkk, if_neg hk2]; rfl
end
section
variable {O : Om} {c c' : Cx N5} {ρ : Loc N5} {σ : Sto N5} {Q X : V N5 → Sto N5 → Prop}
abbrev rowE : ME := .tup [(.loc 1), (.tup [(.cel 3), (.loc 2)])]
theorem rows_items {i : Nat} {K : Sto N5 → Prop} (hK : K σ) (hκ : c'.κ 3 = some (.int (i : Int))) : ∀ (ws : List Str) (acc : List (V N5)) (ρ : Loc N5) (Q : List (V N5) → Loc N5 → Sto N5 → Prop), acc.length + 2 * ws.length < 1000 → (∀ ρ', Q (acc ++ ws.flatMap fun w => rw2 w i) ρ' σ) →
    itemsW O c' X (.loc 1) [] (innerW O c' X rowE [(.mk (.loc 2) (.tup [(.int (1)), (.int (0))]) [])]) K (ws.map V.str) acc ρ σ Q
  | [], acc, ρ, Q, _, h => by have := h ρ; rw [List.flatMap_nil, List.append_nil] at this; exact this
  | w :: ws, acc, ρ, Q, hz, h => by
    rw [List.length_cons] at hz
    refine ATg.loc ?_
    show AE O _ _ _ _ _ _
    refine AE.tup (AEl.cons (AE.int (AEl.cons (AE.int (AEl.nil ⟨by rw [sizeLine_eq]; simp, _, rfl, ?_⟩)))))
    refine ATg.loc ⟨by omega, AE.tup (AEl.cons (AE.loc rfl (AEl.cons (AE.tup (AEl.cons (AE.celR hκ rfl (AEl.cons (AE.loc rfl (AEl.nil ⟨by rw [sizeLine_eq]; simp, AEl.nil ⟨by rw [sizeLine_eq]; simp, rfl, ?_⟩⟩)))))))))⟩
    refine ATg.loc ⟨by rw [List.length_append]; simp; omega, AE.tup (AEl.cons (AE.loc rfl (AEl.cons (AE.tup (AEl.cons (AE.celR hκ rfl (AEl.cons (AE.loc rfl (AEl.nil ⟨by rw [sizeLine_eq]; simp, AEl.nil ⟨by rw [sizeLine_eq]; simp, rfl, hK, ?_⟩⟩)))))))))⟩
    refine rows_items hK hκ ws _ _ _ (by rw [List.length_append, List.length_append]; simp; omega) fun ρ' => ?_
    have := h ρ'
    rw [List.flatMap_cons, ← List.append_assoc] at this
    have e : (acc ++ [V.tup [.str w, .tup [.int (i : Int), .int 1]]]) ++ [V.tup [.str w, .tup [.int (i : Int), .int 0]]] = acc ++ rw2 w i := by rw [List.append_assoc]; rfl
    exact e ▸ this
def lawRows (i : Nat) (kind root : Int) : List (V N5) := if root < 0 then rows3 i ++ rw2 "tpc_finish" i else (if kind = 1 ∧ root = i then rowsBad i else []) ++ rowsAb i
theorem law_rows_ok (S : StL O) (hD : 1 ≤ c.D) (hg : c.hd.good = true) {i : Nat} {kind root : Int} (h : Q (.lst (lawRows i kind root)) σ) : PCc O c (.st g__law_rows) [.int (i : Int), .int kind, .int root] [] [] ρ σ Q X := by
  refine PCc.goP (e := f__law_rows) (bv := [.int (i : Int), .int kind, .int root]) S.ok (F__law_rows S) (by omega) (Nat.le_of_ble_eq_true rfl) (Nat.le_of_ble_eq_true rfl) (Nat.le_of_ble_eq_true rfl) rfl ?_
  unfold lawRows at h
  repeat kpc_signs
  by_cases h0 : root < 0
  · rw [if_pos h0] at h
    rw [show decide (root < 0) = true from decide_eq_true h0]
    repeat kpc_signs
    refine AE.comp S.ok hg (by rfl) ?_
    repeat kpc_signs
    refine ⟨_, rfl, ?_⟩
    refine rows_items (i := i) (by rfl) (by rfl) ["tpc_begin", "commit", "tpc_vote", "tpc_finish"] [] _ _ (by simp) fun ρ' => ?_
    exact h
  · rw [if_neg h0] at h
    rw [show decide (root < 0) = false from decide_eq_false h0]
    repeat kpc_signs
    refine AE.lst ?_
    repeat kpc_signs
    by_cases h1 : kind = 1
    · rw [show (kind == 1) = true from beq_iff_eq.mpr h1]
      repeat kpc_signs
      by_cases h2 : root = i
      · rw [if_pos ⟨h1, h2⟩] at h
        rw [show (root == (i : Int)) = true from beq_iff_eq.mpr h2]
        repeat kpc_signs
        refine AS.asgC S.ok hg (by rfl) ?_
        repeat kpc_signs
        refine ⟨_, rfl, ?_⟩
        refine rows_items (i := i) (by rfl) (by rfl) ["tpc_begin", "commit", "tpc_vote"] [] _ _ (by simp) fun ρ' => ?_
        repeat kpc_signs
        refine AE.lst ?_
        repeat kpc_signs
        refine P2.addL rfl rfl rfl rfl (by simp [rw2]) ?_
        repeat kpc_signs
        refine AE.lst ?_
        repeat kpc_signs
        refine P2.addL rfl rfl rfl rfl (by simp [rw2]) ?_
        exact h
      · rw [if_neg (fun q => h2 q.2)] at h
        rw [show (root == (i : Int)) = false from beq_eq_false_iff_ne.mpr h2]
        repeat kpc_signs
        refine AE.lst ?_
        repeat kpc_signs
        refine P2.addL rfl rfl rfl rfl (by simp) ?_
        exact h
    · rw [if_neg (fun q => h1 q.1)] at h
      rw [show (kind == 1) = false from beq_eq_false_iff_ne.mpr h1]
      repeat kpc_signs
      refine AE.lst ?_
      repeat kpc_signs
      refine P2.addL rfl rfl rfl rfl (by simp) ?_
      exact h
theorem law_rows_plan (P : Plan) (i : Nat) : lawRows i (P.kind i) (P.roots i) = P.rows i := rfl
end
section
variable {O : Om} {c : Cx N5} {ρ : Loc N5} {σ σR : Sto N5} {Q X : V N5 → Sto N5 → Prop}
theorem Bld.world {ns : List Nat} (H : Bld ns 6 σ) : World (planOf ns) σ σ [] [] where
  log := H.log
  ends := ⟨[], [], H.dic, .nil, rfl, nofun, nofun, nofun, fun _ _ _ _ => rfl⟩
  dnd := .nil
  dlt := nofun
  apart := nofun
  blt := nofun
  fresh := fun i hi _ => H.fresh i hi
  fin := nofun
  asked := nofun
  rest := fun _ _ => rfl
def wantIdx (ns : List Nat) (t : Nat) : Nat := (numAt ns 6 + (if numAt ns 6 / 6 % 2 = 0 then 1 else 5) * t) % 6
theorem loop15 (S : StL O) (L : LawCx c) {ns : List Nat} (hn : ns.length = 7) (r : R2 ns ρ) (H : Bld ns 6 σ) {Q : AF N5 → Loc N5 → Sto N5 → Prop} {X : V N5 → Loc N5 → Sto N5 → Prop} (h : ∀ ρ' σ' done, R2 ns ρ' → World (planOf ns) σ σ' done [] → (∀ i, i < 6 → i ∈ done) → Q .next ρ' σ') : AS O c lw15 ρ σ Q X := by
  have hD := L.D
  refine AS.forR L.good ?_
  repeat kpc_signs
  refine PC.range1 ⟨0, 6, 1, 6, rfl, rfl, ?_⟩
  have hnum := num_at hn (k := 6) (by omega)
  have fin : ∀ (done : List Nat), (∀ s, s < 6 → wantIdx ns s ∈ done) → ∀ i, i < 6 → i ∈ done := fun done hd i hi => by
    have key : ∃ s, s < 6 ∧ wantIdx ns s = i := by
      unfold wantIdx
      by_cases e : numAt ns 6 / 6 % 2 = 0
      · rw [if_pos e]
        exact ⟨(i + 6 - numAt ns 6 % 6) % 6, by omega, by omega⟩
      · rw [if_neg e]
        exact ⟨(numAt ns 6 % 6 + 6 - i) % 6, by omega, by omega⟩
    obtain ⟨s, h1, h2⟩ := key
    exact h2 ▸ hd s h1
  refine ForR.up (fun t ρ σ' => R2 ns ρ ∧ ∃ done, World (planOf ns) σ σ' done [] ∧ ∀ s, s < t → wantIdx ns s ∈ done) 6 (fun ρ σ' q => let ⟨done, W, hd⟩ := q.2; h ρ σ' done q.1 W (fin done hd)) (fun t ρ σ' ht ⟨r, done, W, hd⟩ => ?_) 6 0 ρ σ rfl ⟨r, [], H.world, fun s hs => by omega⟩
  obtain ⟨⟨r1, r2, r3, r4⟩, r11, r12, r13, r14⟩ := r
  have C := H.toCellsOk
  have g2 : σ' (.g 2) = some (.cell (some wantV)) := (W.rest 2 (by omega)).trans C.want
  have hlt : wantIdx ns t < 6 := Nat.mod_lt _ (by omega)
  have go : ∀ {Q' : V N5 → Sto N5 → Prop}, (∀ v σ'', (R2 ns (ρ.upd 18 (.int (t : Int))) ∧ ∃ done, World (planOf ns) σ σ'' done [] ∧ ∀ s, s < t + 1 → wantIdx ns s ∈ done) → Q' v σ'') → PC O c wantV [.int ((wantIdx ns t : Nat) : Int)] [] [] (ρ.upd 18 (.int (t : Int))) σ' Q' (fun v σ'' => X v (ρ.upd 18 (.int (t : Int))) σ'') := fun hq =>
    PCc.pc (want_ok S (plan_ok ns) _ hlt _ _ _ _ _ _ _ _ (by omega) L.hd C W nofun fun σ'' new W' hi => hq _ _ ⟨⟨⟨r1, r2, r3, r4⟩, r11, r12, r13, r14⟩, done ++ new, W', fun s hs => by
      by_cases e : s = t
      · exact e ▸ hi
      · exact List.mem_append_left _ (hd s (by omega))⟩)
  repeat kpc_signs
  refine PI.lst (i := 6) rfl rfl hnum (by omega) ?_
  refine AE.bin (AE.ite ?_)
  repeat kpc_signs
  refine PI.lst (i := 6) rfl rfl hnum (by omega) ?_
  repeat kpc_signs
  refine P2.fdiv (by decide) (PyProof.noPylong_small (by decide)) ?_
  repeat kpc_signs
  refine P2.mod (by decide) ?_
  repeat kpc_signs
  have e0 : ((((numAt ns 6 : Nat) : Int).fdiv 6).fmod 2 == 0) = decide (numAt ns 6 / 6 % 2 = 0) := by
    rw [Int.fdiv_eq_ediv_of_nonneg _ (by omega), Int.fmod_eq_emod_of_nonneg _ (by omega), Bool.eq_iff_iff, beq_iff_eq, decide_eq_true_eq]
    omega
  rw [e0]
  by_cases e : numAt ns 6 / 6 % 2 = 0
  · rw [decide_eq_true e]
    repeat kpc_signs
    refine P2.mul (.of_left (by decide)) ?_
    refine P2.add ?_
    repeat kpc_signs
    refine P2.mod (by decide) ?_
    have e1 : (((numAt ns 6 : Nat) : Int) + 1 * (t : Int)).fmod 6 = ((wantIdx ns t : Nat) : Int) := by
      rw [Int.fmod_eq_emod_of_nonneg _ (by omega)]
      unfold wantIdx; rw [if_pos e]; omega
    rw [e1]
    repeat kpc_signs
    exact go fun _ _ q => AX.nil q
  · rw [decide_eq_false e]
    repeat kpc_signs
    refine P2.mul (.of_left (by decide)) ?_
    refine P2.add ?_
    repeat kpc_signs
    refine P2.mod (by decide) ?_
    have e1 : (((numAt ns 6 : Nat) : Int) + 5 * (t : Int)).fmod 6 = ((wantIdx ns t : Nat) : Int) := by
      rw [Int.fmod_eq_emod_of_nonneg _ (by omega)]
      unfold wantIdx; rw [if_neg e]; omega
    rw [e1]
    repeat kpc_signs
    exact go fun _ _ q => AX.nil q
end
def addNew (ord : List Nat) (i : Nat) : List Nat := if i ∈ ord then ord else ord ++ [i]
def idOf : V N5 → Nat
  | .tup [_, .tup [.int i, _]] => i.toNat
  | _ => 0
def RowLike (v : V N5) : Prop := ∃ (what : Str) (i k : Nat), v = rowV what (whoV i k)
theorem rows_like (P : Plan) (i : Nat) : ∀ v ∈ P.rows i, RowLike v ∧ idOf v = i := fun v hv => by
  have g : ∀ (what : Str) (k : Nat), RowLike (rowV what (whoV i k)) ∧ idOf (rowV what (whoV i k)) = i := fun what k => ⟨⟨what, i, k, rfl⟩, by show ((i : Int)).toNat = i; simp⟩
  have h2 : ∀ (what : Str), ∀ v ∈ rw2 what i, RowLike v ∧ idOf v = i := fun what v hv => by
    simp only [rw2, List.mem_cons, List.not_mem_nil, or_false] at hv
    rcases hv with rfl | rfl
    · exact g what 1
    · exact g what 0
  have h3 : ∀ v ∈ rows3 i, RowLike v ∧ idOf v = i := fun v hv => by
    simp only [rows3, List.mem_append] at hv
    rcases hv with (h | h) | h <;> exact h2 _ v h
  have hab : ∀ v ∈ rowsAb i, RowLike v ∧ idOf v = i := fun v hv => by
    simp only [rowsAb, List.mem_cons, List.not_mem_nil, or_false] at hv
    rcases hv with rfl | rfl
    · exact g _ 0
    · exact g _ 1
  unfold Plan.rows at hv
  split at hv
  · rcases List.mem_append.mp hv with h | h
    · exact h3 v h
    · exact h2 _ v h
  · rcases List.mem_append.mp hv with h | h
    · split at h
      · unfold rowsBad at h
        rcases List.mem_append.mp h with h | h
        · exact h3 v h
        · simp only [List.mem_cons, List.not_mem_nil, or_false] at h
          rcases h with rfl | rfl | rfl
          · exact g _ 0
          · exact g _ 1
          · exact g _ 0
      · cases h
    · exact hab v h
theorem rows_ne (P : Plan) (i : Nat) : P.rows i ≠ [] := by
  unfold Plan.rows rows3 rw2 rowsAb
  split
  · simp
  · simp
theorem fold_same {i : Nat} {ord : List Nat} (hi : i ∈ ord) : ∀ l : List Nat, (∀ x ∈ l, x = i) → l.foldl addNew ord = ord
  | [], _ => rfl
  | x :: l, h => by
    rw [List.foldl_cons, h x (.head _)]
    have : addNew ord i = ord := by unfold addNew; rw [if_pos hi]
    rw [this]
    exact fold_same hi l fun y hy => h y (.tail _ hy)
theorem fold_new {i : Nat} {ord l : List Nat} (hi : i ∉ ord) (hl : l ≠ []) (h : ∀ x ∈ l, x = i) : l.foldl addNew ord = ord ++ [i] := by
  cases l with
  | nil => exact absurd rfl hl
  | cons x l =>
    rw [List.foldl_cons, h x (.head _)]
    have : addNew ord i = ord ++ [i] := by unfold addNew; rw [if_neg hi]
    rw [this]
    exact fold_same (by simp) l fun y hy => h y (.tail _ hy)
theorem fold_done (P : Plan) : ∀ (done ord : List Nat), (ord ++ done).Nodup → ((done.flatMap P.rows).map idOf).foldl addNew ord = ord ++ done
  | [], ord, _ => by simp
  | i :: done, ord, hn => by
    have hi : i ∉ ord := fun hm => by
      rw [List.nodup_append] at hn
      exact hn.2.2 i hm i (.head _) rfl
    rw [List.flatMap_cons, List.map_append, List.foldl_append, fold_new hi (by have := rows_ne P i; simpa using this) (fun x hx => by
      obtain ⟨v, hv, rfl⟩ := List.mem_map.mp hx
      exact (rows_like P i v hv).2), fold_done P done (ord ++ [i]) (by rw [List.append_assoc]; exact hn), List.append_assoc]
    rfl
theorem add_len (ord : List Nat) (i : Nat) : (addNew ord i).length ≤ ord.length + 1 := by unfold addNew; split <;> simp
section
variable {O : Om} {c : Cx N5} {ρ : Loc N5} {σ σR : Sto N5} {Q X : V N5 → Sto N5 → Prop}
theorem loop17 (S : StL O) (L : LawCx c) {P : Plan} {done : List Nat} (r11 : ρ 11 = some (.ref (.g 0))) (hl : σ (.g 0) = some (.list (done.flatMap P.rows))) (hn : done.Nodup) (hz : (done.flatMap P.rows).length ≤ 120) (c8 : σ (.g 8) = some (.cell (some (.ref (.g 15))))) (l15 : σ (.g 15) = some (.list []))
    {Q : AF N5 → Loc N5 → Sto N5 → Prop} {X : V N5 → Loc N5 → Sto N5 → Prop} (h : ∀ ρ' σ', (∀ j, j ≠ 20 → ρ' j = ρ j) → σ' (.g 15) = some (.list (done.map nv)) → (∀ n, n ≠ .g 15 → σ' n = σ n) → Q .next ρ' σ') : AS O c lw17 ρ σ Q X := by
  have hD := L.D
  refine AS.forL L.good (AE.loc r11 ⟨_, .inl rfl, items_ref hl, ?_⟩)
  refine ForL.ind (fun rest ρ' σ' => (∀ j, j ≠ 20 → ρ' j = ρ j) ∧ (∀ v ∈ rest, RowLike v) ∧ ∃ ord : List Nat, ord.length + rest.length ≤ 120 ∧ σ' (.g 15) = some (.list (ord.map nv)) ∧ (rest.map idOf).foldl addNew ord = done ∧ ∀ n, n ≠ .g 15 → σ' n = σ n) (fun ρ' σ' hI => ?_) (fun v r ρ' σ' hI => ?_) _ _ _ ⟨fun _ _ => rfl, fun v hv => ?_, [], by simpa using hz, l15, fold_done P done [] hn, fun _ _ => rfl⟩
  · obtain ⟨q1, q2, ord, q3, q4, q5, q6⟩ := hI
    have q5 : ord = done := q5
    subst q5
    exact h ρ' σ' q1 q4 q6
  · obtain ⟨q1, q2, ord, q3, q4, q5, q6⟩ := hI
    obtain ⟨what, i, k, rfl⟩ := q2 v (.head _)
    have c8' := (q6 (.g 8) (by simp)).trans c8
    have l0' := (q6 (.g 0) (by simp)).trans hl
    rw [List.map_cons, List.foldl_cons] at q5
    have e0 : idOf (rowV what (whoV i k)) = i := by show ((i : Int)).toNat = i; simp
    rw [e0] at q5
    rw [List.length_cons] at q3
    have hm : ord.map nv = (ord.map fun j : Nat => (j : Int)).map V.int := by rw [List.map_map]; rfl
    have hc : (ord.map fun j : Nat => (j : Int)).contains (i : Int) = decide (i ∈ ord) := by
      rw [Bool.eq_iff_iff, List.contains_iff_mem, decide_eq_true_eq, List.mem_map]
      exact ⟨fun ⟨j, h1, h2⟩ => by have : j = i := by omega
                                   exact this ▸ h1, fun h1 => ⟨i, h1, rfl⟩⟩
    repeat kpc_signs
    refine PI.tup (i := 1) rfl (by omega) ?_
    repeat kpc_signs
    refine PI.tup (i := 0) rfl (by omega) ?_
    repeat kpc_signs
    refine P2.inInts (is := ord.map fun j : Nat => (j : Int)) rfl (by rw [← hm]; exact items_ref q4) (.inr ⟨rfl, rfl⟩) ?_
    rw [hc]
    repeat kpc_signs
    by_cases hi : i ∈ ord
    · rw [decide_eq_true hi]
      repeat kpc_signs
      have e1 : addNew ord i = ord := by unfold addNew; rw [if_pos hi]
      rw [e1] at q5
      exact ⟨items_ref l0', fun j hj => by rw [← q1 j hj]; exact if_neg hj, fun v hv => q2 v (.tail _ hv), ord, by omega, q4, q5, q6⟩
    · rw [decide_eq_false hi]
      repeat kpc_signs
      refine PM.append q4 ?_
      repeat kpc_signs
      refine PI.tup (i := 1) rfl (by omega) ?_
      repeat kpc_signs
      refine PI.tup (i := 0) rfl (by omega) ?_
      repeat kpc_signs
      refine PC.append q4 (by rw [List.length_map]; omega) ?_
      repeat kpc_signs
      have e1 : addNew ord i = ord ++ [i] := by unfold addNew; rw [if_neg hi]
      rw [e1] at q5
      exact ⟨items_ref ((Sto.set_ne (by simp)).trans l0'), fun j hj => by rw [← q1 j hj]; exact if_neg hj, fun v hv => q2 v (.tail _ hv), ord ++ [i], by rw [List.length_append]; simp; omega, by rw [Sto.set_self, List.map_append]; rfl, q5, fun n hn => (Sto.set_ne hn).trans (q6 n hn)⟩
  · obtain ⟨i, _, hv⟩ := List.mem_flatMap.mp hv
    exact (rows_like P i v hv).1
theorem loop19 (S : StL O) (L : LawCx c) {ns done : List Nat} (r4 : ρ 4 = some (.ref (.g 11))) (r21 : ρ 21 = some (.lst [])) (hlt : ∀ i ∈ done, i < 6) (hz : (done.flatMap (planOf ns).rows).length ≤ 120) (c5 : σ (.g 5) = some (.cell (some (.ref (.g 12))))) (c6 : ∃ v, σ (.g 6) = some (.cell v)) (c8 : σ (.g 8) = some (.cell (some (.ref (.g 15))))) (l11 : σ (.g 11) = some (.list (upto (fun i => .int (kindAt ns i)) 6))) (l12 : σ (.g 12) = some (.list (upto (fun i => .int (rootsOf ns i)) 6))) (l15 : σ (.g 15) = some (.list (done.map nv)))
    {Q : AF N5 → Loc N5 → Sto N5 → Prop} {X : V N5 → Loc N5 → Sto N5 → Prop} (h : ∀ ρ' σ', (∀ j, j ≠ 21 → ρ' j = ρ j) → ρ' 21 = some (.lst (done.flatMap (planOf ns).rows)) → (∃ v, σ' (.g 6) = some (.cell v)) → (∀ n, n ≠ .g 6 → σ' n = σ n) → Q .next ρ' σ') : AS O c lw19 ρ σ Q X := by
  have hD := L.D
  refine AS.forL L.good (AE.cel L.k19 c8 ⟨_, .inl rfl, items_ref l15, ?_⟩)
  refine ForL.ind (fun rest ρ' σ' => (∀ j, j ≠ 21 → ρ' j = ρ j) ∧ (∃ v, σ' (.g 6) = some (.cell v)) ∧ (∀ n, n ≠ .g 6 → σ' n = σ n) ∧ ∃ pre todo, done = pre ++ todo ∧ rest = todo.map nv ∧ ρ' 21 = some (.lst (pre.flatMap (planOf ns).rows))) (fun ρ' σ' hI => ?_) (fun v r ρ' σ' hI => ?_) _ _ _ ⟨fun _ _ => rfl, c6, fun _ _ => rfl, [], done, rfl, rfl, r21⟩
  · obtain ⟨q1, q2, q3, pre, todo, e1, e2, e3⟩ := hI
    have : todo = [] := by cases todo with | nil => rfl | cons _ _ => cases e2
    subst this
    rw [List.append_nil] at e1
    subst e1
    exact h ρ' σ' q1 e3 q2 q3
  · obtain ⟨q1, ⟨v6, q2⟩, q3, pre, todo, e1, e2, e3⟩ := hI
    cases todo with
    | nil => cases e2
    | cons i todo =>
      rw [List.map_cons, List.cons.injEq] at e2
      obtain ⟨rfl, rfl⟩ := e2
      have hi6 : i < 6 := hlt i (by rw [e1]; simp)
      have g4 := (q1 4 (by omega)).trans r4
      have c5' := (q3 (.g 5) (by simp)).trans c5
      have l11' := (q3 (.g 11) (by simp)).trans l11
      have l12' := (q3 (.g 12) (by simp)).trans l12
      have l15' := (q3 (.g 15) (by simp)).trans l15
      have hz2 : (pre.flatMap (planOf ns).rows).length + ((planOf ns).rows i).length ≤ 120 := by
        refine Nat.le_trans ?_ hz
        rw [e1, List.flatMap_append, List.flatMap_cons, List.length_append, List.length_append]; omega
      repeat kpc_signs
      refine PI.lst rfl (items_ref (by kpt_eq)) (upto_at hi6) (by omega) ?_
      repeat kpc_signs
      refine PI.lst rfl (items_ref (by kpt_eq)) (upto_at hi6) (by omega) ?_
      repeat kpc_signs
      refine PCc.pc (law_rows_ok S (by show 1 ≤ c.D; omega) L.good (i := i) ?_)
      have e4 : lawRows i (kindAt ns i) (rootsOf ns i) = (planOf ns).rows i := rfl
      rw [e4]
      refine P2.addL rfl rfl rfl rfl (by omega) ?_
      repeat kpc_signs
      refine ⟨items_ref (by kpt_eq), fun j hj => by rw [← q1 j hj]; exact if_neg hj, ⟨_, Sto.set_self⟩, fun n hn => (Sto.set_ne hn).trans (q3 n hn), pre ++ [i], todo, by rw [e1]; simp, rfl, ?_⟩
      rw [List.flatMap_append, List.flatMap_cons, List.flatMap_nil, List.append_nil]
      rfl
end
section
variable {N : Type}
theorem deqs_refl {f : V N → V N → Option Bool} : ∀ {vs : List (V N)}, (∀ v ∈ vs, f v v = some true) → deqs f vs vs = some true
  | [], _ => rfl
  | v :: vs, h => by
    unfold deqs
    rw [h v (.head _), deqs_refl fun u hu => h u (.tail _ hu)]; rfl
theorem leq_refl {vs : List (V N)} (h : ∀ v ∈ vs, deq 20 v v = some true) : leq vs vs = some true := by
  unfold leq; rw [if_pos rfl]; exact deqs_refl h
theorem deq_int (n : Nat) (i : Int) : deq (n + 1) (V.int i : V N) (.int i) = some true := by unfold deq; simp
theorem deq_str (n : Nat) (i : Str) : deq (n + 1) (V.str i : V N) (.str i) = some true := by unfold deq; simp
theorem deq_tup (n : Nat) {vs : List (V N)} (h : ∀ v ∈ vs, deq n v v = some true) : deq (n + 1) (V.tup vs) (.tup vs) = some true := by
  unfold deq; dsimp only; rw [deqs_refl h]; simp
end
theorem deq_row (w : Str) (i k : Nat) : deq 20 (rowV w (whoV i k)) (rowV w (whoV i k)) = some true := deq_tup 19 fun v hv => by
  simp only [List.mem_cons, List.not_mem_nil, or_false] at hv
  rcases hv with rfl | rfl
  · exact deq_str 18 w
  · exact deq_tup 18 fun v hv => by
      simp only [List.mem_cons, List.not_mem_nil, or_false] at hv
      rcases hv with rfl | rfl
      · exact deq_int 17 _
      · exact deq_int 17 _
theorem six_mem {v : V N5} (hv : v ∈ ([nv 0, nv 1, nv 2, nv 3, nv 4, nv 5] : List (V N5))) : ∃ i : Nat, i < 6 ∧ v = nv i := by
  simp only [List.mem_cons, List.not_mem_nil, or_false] at hv
  rcases hv with rfl | rfl | rfl | rfl | rfl | rfl
  · exact ⟨0, by omega, rfl⟩
  · exact ⟨1, by omega, rfl⟩
  · exact ⟨2, by omega, rfl⟩
  · exact ⟨3, by omega, rfl⟩
  · exact ⟨4, by omega, rfl⟩
  · exact ⟨5, by omega, rfl⟩
theorem sorted6 {done : List Nat} {js : List Int} (hn : done.Nodup) (hlt : ∀ i ∈ done, i < 6) (hall : ∀ i, i < 6 → i ∈ done) (hp : js.Perm (done.map fun j : Nat => (j : Int))) (hs : js.Pairwise (· ≤ ·)) : js = [0, 1, 2, 3, 4, 5] := by
  have h1 : done.Perm (List.range 6) := (List.perm_ext_iff_of_nodup hn List.nodup_range).mpr fun a => ⟨fun h => List.mem_range.mpr (hlt a h), fun h => hall a (List.mem_range.mp h)⟩
  have h2 : js.Perm ((List.range 6).map fun j : Nat => (j : Int)) := hp.trans (h1.map _)
  refine h2.eq_of_pairwise (le := fun a b => a ≤ b) (fun a b _ _ x y => Int.le_antisymm x y) hs ?_
  show ([0, 1, 2, 3, 4, 5] : List Int).Pairwise (· ≤ ·)
  decide
section
variable {O : Om} {c : Cx N5} {ρ : Loc N5} {σ σR : Sto N5} {Q X : V N5 → Sto N5 → Prop}
theorem chk20 (S : StL O) (L : LawCx c) {ns done : List Nat} (hn : done.Nodup) (hlt : ∀ i ∈ done, i < 6) (hall : ∀ i, i < 6 → i ∈ done) (r11 : ρ 11 = some (.ref (.g 0))) (r21 : ρ 21 = some (.lst (done.flatMap (planOf ns).rows))) (hz : (done.flatMap (planOf ns).rows).length ≤ 120) (l0 : σ (.g 0) = some (.list (done.flatMap (planOf ns).rows))) (E : ∃ ks vs, EndsOk (planOf ns) σ done [] ks vs) (c3 : σ (.g 3) = some (.cell (some (.ref (.g 1))))) (c5 : σ (.g 5) = some (.cell (some (.ref (.g 12))))) (c8 : σ (.g 8) = some (.cell (some (.ref (.g 15))))) (l12 : σ (.g 12) = some (.list (upto (fun i => .int (rootsOf ns i)) 6))) (l15 : σ (.g 15) = some (.list (done.map nv)))
    {Q : AF N5 → Loc N5 → Sto N5 → Prop} {X : V N5 → Loc N5 → Sto N5 → Prop} (h : Q .next ρ σ) : AS O c lw20 ρ σ Q X := by
  have hD := L.D
  have hm : done.map nv = (done.map fun j : Nat => (j : Int)).map V.int := by rw [List.map_map]; rfl
  have hlen : done.length ≤ 6 := nodup_lt hn hlt
  obtain ⟨ks, vs, E⟩ := E
  repeat kpc_signs
  refine PC.sorted rfl (by rw [← hm]; exact items_ref l15) (by rw [List.length_map]; omega) fun js hp hs => ?_
  rw [sorted6 hn hlt hall hp hs]
  repeat kpc_signs
  refine AE.lst ?_
  repeat kpc_signs
  refine P2.eqL (q := true) (by omega) rfl rfl rfl rfl (leq_refl fun v hv => ?_) (.inr ⟨rfl, rfl⟩) ?_
  · obtain ⟨j, _, rfl⟩ := List.mem_map.mp hv
    exact deq_int 19 j
  repeat kpc_signs
  refine P2.eqL (q := true) (by omega) rfl (items_ref l0) rfl rfl (leq_refl fun v hv => ?_) (.inr ⟨rfl, rfl⟩) ?_
  · obtain ⟨i, _, hv⟩ := List.mem_flatMap.mp hv
    obtain ⟨w, i, k, rfl⟩ := (rows_like _ i v hv).1
    exact deq_row w i k
  repeat kpc_signs
  refine AE.comp S.ok L.good (by simp [capAll, List.range, List.range.loop, L.k25]) ?_
  repeat kpc_signs
  refine PC.range1 ⟨_, rfl, ?_⟩
  refine items_map (by rfl) (fun v => match v with | .int j => .int (rootsOf ns j.toNat) | v => v) _ _ _ _ (fun v hv ρ' R hR => ?_) (by show 0 + 6 < 1000000; omega) fun ρ' => ?_
  · obtain ⟨i, hi, rfl⟩ := six_mem hv
    refine AE.sub rfl (AE.cel (by exact L.k25) c3 (AE.loc (v := nv i) (by simp [Loc.upd]) (PI.dict (keyInt O N5) E.e E.nd (E.eD i (hall i hi)) ?_)))
    exact hR
  repeat kpc_signs
  refine P2.eqL (q := true) (by omega) rfl rfl rfl (items_ref l12) (leq_refl fun v hv => ?_) (.inr ⟨rfl, rfl⟩) ?_
  · obtain ⟨j, hj, rfl⟩ := List.mem_map.mp hv
    obtain ⟨i, hi, rfl⟩ := six_mem hj
    exact deq_int 19 _
  repeat kpc_signs
  exact h
theorem loop22 (S : StL O) (L : LawCx c) {ns : List Nat} (r13 : ρ 13 = some (.ref (.g 13))) (c5 : σ (.g 5) = some (.cell (some (.ref (.g 12))))) (l12 : σ (.g 12) = some (.list (upto (fun i => .int (rootsOf ns i)) 6))) (l13 : σ (.g 13) = some (.list ((List.range 6).flatMap fun i => [.ref (.o 12 i), .ref (.o 13 i)]))) (hp : ∀ i, i < 6 → σ (.o 12 i) = some (((planOf ns).prF i 0).obj (.g 0)) ∧ σ (.o 13 i) = some (((planOf ns).prF i 1).obj (.g 0)))
    {Q : AF N5 → Loc N5 → Sto N5 → Prop} {X : V N5 → Loc N5 → Sto N5 → Prop} (h : ∀ ρ', Q .next ρ' σ) : AS O c lw22 ρ σ Q X := by
  have hD := L.D
  refine AS.forL L.good (AE.loc r13 ⟨_, .inl rfl, items_ref l13, ?_⟩)
  refine ForL.ind (fun rest ρ' σ' => σ' = σ ∧ ∀ v ∈ rest, ∃ p i k, i < 6 ∧ v = V.ref p ∧ σ p = some (((planOf ns).prF i k).obj (.g 0))) (fun ρ' σ' hI => ?_) (fun v r ρ' σ' hI => ?_) _ _ _ ⟨rfl, fun v hv => ?_⟩
  · obtain ⟨rfl, _⟩ := hI
    exact h ρ'
  · obtain ⟨rfl, q2⟩ := hI
    obtain ⟨p, i, k, hi, rfl, g⟩ := q2 v (.head _)
    unfold Plan.prF Plan.worth at g
    have e0 : (planOf ns).roots i = rootsOf ns i := rfl
    rw [e0] at g
    by_cases h0 : rootsOf ns i < 0
    · rw [if_pos h0] at g
      repeat kpc_signs
      refine AE.ite ?_
      repeat kpc_signs
      refine PI.tup (i := 0) rfl (by omega) ?_
      refine PI.lst rfl (items_ref l12) (upto_at hi) (by omega) ?_
      repeat kpc_signs
      rw [show decide (rootsOf ns i < 0) = true from decide_eq_true h0]
      repeat kpc_signs
      refine PI.tup (i := 0) rfl (by omega) ?_
      refine P2.add ?_
      repeat kpc_signs
      rw [show ((7 + (i : Int)) != 7 + (i : Int)) = false from by simp]
      repeat kpc_signs
      rw [show ((7 + (i : Int)) != 7 + (i : Int)) = false from by simp]
      repeat kpc_signs
      exact ⟨items_ref l13, rfl, fun v hv => q2 v (.tail _ hv)⟩
    · rw [if_neg h0] at g
      repeat kpc_signs
      refine AE.ite ?_
      repeat kpc_signs
      refine PI.tup (i := 0) rfl (by omega) ?_
      refine PI.lst rfl (items_ref l12) (upto_at hi) (by omega) ?_
      repeat kpc_signs
      rw [show decide (rootsOf ns i < 0) = false from decide_eq_false h0]
      repeat kpc_signs
      exact ⟨items_ref l13, rfl, fun v hv => q2 v (.tail _ hv)⟩
  · obtain ⟨i, hi, hv⟩ := List.mem_flatMap.mp hv
    have hi := List.mem_range.mp hi
    simp only [List.mem_cons, List.not_mem_nil, or_false] at hv
    rcases hv with rfl | rfl
    · exact ⟨_, i, 0, hi, rfl, (hp i hi).1⟩
    · exact ⟨_, i, 1, hi, rfl, (hp i hi).2⟩
end
section
variable {O : Om} {c : Cx N5} {ρ : Loc N5} {σ σR : Sto N5} {Q X : V N5 → Sto N5 → Prop}
theorem idx_mid {a b : List Nat} {i j : Nat} (hn : (a ++ i :: b).Nodup) (hj : j ∈ a) : (a ++ i :: b).idxOf j < (a ++ i :: b).idxOf i := by
  have hi : i ∉ a := fun hm => by
    rw [List.nodup_append] at hn
    exact hn.2.2 i hm i (.head _) rfl
  rw [idx_first hi, List.idxOf_append, if_pos hj]
  exact List.idxOf_lt_length_iff.mpr hj
theorem asked_chk (S : StL O) (L : LawCx c) {ns done : List Nat} {k : Nat} (hk : k < 6) (hn : done.Nodup) (hlt : ∀ i ∈ done, i < 6) (ha : ∀ j ∈ askedAt ns k, ∃ a b, done = a ++ k :: b ∧ j ∈ a) (hal : (askedAt ns k).length ≤ 6) (hkd : k ∈ done) (r3 : ρ 3 = some (.ref (.g 10))) (c6 : σ (.g 6) = some (.cell (some (.int (k : Int))))) (c8 : σ (.g 8) = some (.cell (some (.ref (.g 15))))) (l10 : σ (.g 10) = some (.list (upto (fun i => natsV (askedAt ns i)) 6))) (l15 : σ (.g 15) = some (.list (done.map nv))) (h : Q (.lst []) σ) :
    AE O c (.comp (.loc 1) [(.mk (.loc 1) (.sub (.loc 3) (.cel 6)) [(.cmp (.mcall (.cel 3) ("index" : Str) [(.loc 1)] [] []) [.Gt] [(.mcall (.cel 3) ("index" : Str) [(.cel 2)] [] [])])])] ⟨.function, [((".0" : Str), .local), (("j" : Str), .local), (("i" : Str), .free), (("order" : Str), .free)], false, false, []⟩ [(2, 6), (3, 19)]) ρ σ Q X := by
  have hlen : done.length ≤ 6 := nodup_lt hn hlt
  have hm : done.map nv = (done.map fun j : Nat => (j : Int)).map V.int := by rw [List.map_map]; rfl
  refine AE.comp S.ok L.good (by simp [capAll, List.range, List.range.loop, List.lookup, L.k6, L.k19]) ?_
  repeat kpc_signs
  refine PI.lst rfl (items_ref l10) (upto_at hk) (by omega) ⟨(askedAt ns k).map nv, rfl, ?_⟩
  refine items_filter (by rfl) (fun _ => false) _ _ _ _ (fun u hu ρ' R hR => ?_) (by rw [List.length_map, List.length_nil]; omega) fun ρ' => ?_
  · obtain ⟨j, hj, rfl⟩ := List.mem_map.mp hu
    obtain ⟨a, b, e, hja⟩ := ha j hj
    have hjd : j ∈ done := by rw [e]; simp [hja]
    refine AT.cmp (AE.mcall S.ok (AE.cel (by exact L.k19) c8 (PM.index (n := .g 15) rfl (items_ref l15) (AEl.cons (AE.loc (v := nv j) (by simp [Loc.upd]) (AEl.nil (AEl.nil ?_)))))))
    refine PC.index rfl (by rw [← hm]; exact items_ref l15) (k := (j : Int)) (List.mem_map.mpr ⟨j, hjd, rfl⟩) (by rw [List.length_map]; omega) ?_
    refine AE.mcall S.ok (AE.cel (by exact L.k19) c8 (PM.index (n := .g 15) rfl (items_ref l15) (AEl.cons (AE.cel (by exact L.k6) c6 (AEl.nil (AEl.nil ?_))))))
    refine PC.index rfl (by rw [← hm]; exact items_ref l15) (k := (k : Int)) (List.mem_map.mpr ⟨k, hkd, rfl⟩) (by rw [List.length_map]; omega) ?_
    rw [idx_cast, idx_cast]
    have := idx_mid (e ▸ hn) hja
    rw [← e] at this
    refine P2.cmpI (.inr (.inr (.inr (.inr (.inl ⟨rfl, rfl⟩))))) (P1B.bool ?_)
    rw [show decide (((done.idxOf j : Nat) : Int) > ((done.idxOf k : Nat) : Int)) = false from decide_eq_false (by omega)]
    exact hR
  · rw [List.filter_eq_nil_iff.mpr (by simp)]
    exact h
theorem loop21 (S : StL O) (L : LawCx c) {ns done : List Nat} (hn : done.Nodup) (hlt : ∀ i ∈ done, i < 6) (hall : ∀ i, i < 6 → i ∈ done) (ha : ∀ k ∈ done, ∀ j ∈ askedAt ns k, ∃ a b, done = a ++ k :: b ∧ j ∈ a) (hal : ∀ k, k < 6 → (askedAt ns k).length ≤ 6) (r3 : ρ 3 = some (.ref (.g 10))) (r14 : ρ 14 = some (.ref (.g 14))) (c4 : σ (.g 4) = some (.cell (some centersV))) (c6 : ∃ v, σ (.g 6) = some (.cell v)) (c8 : σ (.g 8) = some (.cell (some (.ref (.g 15))))) (l10 : σ (.g 10) = some (.list (upto (fun i => natsV (askedAt ns i)) 6))) (l14 : σ (.g 14) = some (.list (upto (fun i => .ref (.o 3 i)) 6))) (l15 : σ (.g 15) = some (.list (done.map nv))) (D : ∀ i, i < 6 → Done (planOf ns) σ i)
    {Q : AF N5 → Loc N5 → Sto N5 → Prop} {X : V N5 → Loc N5 → Sto N5 → Prop} (h : ∀ σ', (∀ k, k ≠ 6 → σ' (.g k) = σ (.g k)) → (∀ i, σ' (.o 12 i) = σ (.o 12 i) ∧ σ' (.o 13 i) = σ (.o 13 i)) → Q .next ρ σ') : AS O c lw21 ρ σ Q X := by
  have hD := L.D
  refine AS.forR L.good ?_
  repeat kpc_signs
  refine PC.range1 ⟨0, 6, 1, 6, rfl, rfl, ?_⟩
  refine ForR.up (fun k ρ' σ' => ρ' = ρ ∧ (∃ v, σ' (.g 6) = some (.cell v)) ∧ (∀ k, k ≠ 6 → σ' (.g k) = σ (.g k)) ∧ ∀ i j, (k ≤ i ∨ j = 12 ∨ j = 13) → σ' (.o j i) = σ (.o j i)) 6 (fun ρ' σ' q => ?_) (fun k ρ' σ' hk ⟨q1, ⟨v6, q2⟩, q3, q4⟩ => ?_) 6 0 ρ σ rfl ⟨rfl, c6, fun _ _ => rfl, fun _ _ _ => rfl⟩
  · obtain ⟨rfl, q2, q3, q4⟩ := q
    exact h σ' q3 fun i => ⟨q4 i 12 (.inr (.inl rfl)), q4 i 13 (.inr (.inr rfl))⟩
  subst q1
  have Dk := (D k hk).same fun j => q4 k j (.inl (Nat.le_refl _))
  have c4' := (q3 4 (by omega)).trans c4
  have c8' := (q3 8 (by omega)).trans c8
  have l10' := (q3 10 (by omega)).trans l10
  have l14' := (q3 14 (by omega)).trans l14
  have l15' := (q3 15 (by omega)).trans l15
  have hm := Dk.m
  obtain ⟨tn, tv, ht⟩ := Dk.t
  repeat kpc_signs
  refine asked_chk S L hk hn hlt (ha k (hall k hk)) (hal k hk) (hall k hk) r3 Sto.set_self (by kpt_eq) (by kpt_eq) (by kpt_eq) ?_
  repeat kpc_signs
  refine AE.lst ?_
  repeat kpc_signs
  refine P2.eqL (q := true) (by omega) rfl rfl rfl rfl rfl (.inr ⟨rfl, rfl⟩) ?_
  repeat kpc_signs
  refine PI.lst rfl rfl (center_at hk) (by omega) ?_
  repeat kpc_signs
  have no : ∀ j, 14 ≤ j → (σ'.set (.g 6) (.cell (some (.int (k : Int))))) (.o j k) = Option.none := fun j hj => (Sto.set_ne (by simp)).trans (Dk.no j hj)
  refine PCc.pc (tm_get_new S (t := .o 14 k) (res := .o 15 k) (bc := .o 16 k) (ac := .o 17 k) (ba := .o 18 k) (aa := .o 19 k) (by show 3 ≤ c.D; omega) ((Sto.set_ne (by simp)).trans hm) (no _ (by omega)) (no _ (by omega)) (no _ (by omega)) (no _ (by omega)) (no _ (by omega)) (no _ (by omega)) (by simp) fun σ₁ g0 g1 g2 => ?_)
  have s6 : σ₁ (.g 6) = some (.cell (some (.int (k : Int)))) := (g2 _ (by simp)).trans Sto.set_self
  have s14 : σ₁ (.g 14) = some (.list (upto (fun i => .ref (.o 3 i)) 6)) := (g2 _ (by simp)).trans ((Sto.set_ne (by simp)).trans l14')
  have st : σ₁ (.o 3 k) = some (.inst C_Transaction tn tv) := (g2 _ (by simp)).trans ((Sto.set_ne (by simp)).trans ht)
  repeat kpc_signs
  refine PI.lst rfl (items_ref s14) (upto_at hk) (by omega) ?_
  refine P2.isRef (r := false) g1 st (.inl ⟨rfl, by simp⟩) ?_
  repeat kpc_signs
  refine ⟨rfl, ⟨_, s6⟩, fun j hj => (g2 _ (by simp)).trans ((Sto.set_ne (by simp [hj])).trans (q3 j hj)), fun i j hij => (g2 _ (by simp; omega)).trans ((Sto.set_ne (by simp)).trans (q4 i j (by omega)))⟩
end
section
variable {O : Om} {c : Cx N5} {ρ : Loc N5} {σ : Sto N5}
theorem asked_len {ns : List Nat} {k : Nat} (hk : k < 6) : (askedAt ns k).length ≤ 6 := by
  have h := needs_len (ns := ns) (i := k)
  unfold askedAt
  split
  · simp
  · split
    · rw [List.length_take]; omega
    · omega
theorem law_walk (S : StL O) (L : LawCx c) {l : Addr} {vs : List Value} {is : List Int} (hB : O.B.IsList l vs.toArray) (hi : IntsAre vs is) (hl : is.length < 64) (hρ : ρ 0 = some (.st (.ref l))) (I0 : Init σ) : AX O c m_law ρ σ (fun af _ _ => af = .ret (.bool true)) (fun _ _ _ => False) := by
  rw [m_law_eq]
  refine law_numbers S L hB hi hl hρ fun ρ₁ h1 => ?_
  refine law_lists S L h1 (I0.gn 9 (by omega)) (I0.gn 10 (by omega)) (I0.gn 11 (by omega)) (I0.gn 12 (by omega)) I0.c5 I0.c6 I0.c7 fun ρ₂ σ₂ r2 H2 => ?_
  refine AX.cons (loop1 S L (numsOf_len is) (numsOf_lt is) r2 H2 fun ρ₃ σ₃ r3 H3 => ?_)
  refine law_setup S L r3 H3 I0 fun ρ₄ σ₄ r4 H4 => ?_
  refine AX.cons (loop14 S L r4 H4 fun ρ₅ σ₅ r5 H5 => ?_)
  refine AX.cons (loop15 S L (numsOf_len is) r5 H5 fun ρ₆ σ₆ done r6 W hall => ?_)
  obtain ⟨⟨_, _, q3, q4⟩, q11, _, q13, q14⟩ := r6
  have c8 := (W.rest 8 (by omega)).trans H5.c8
  have n15 := (W.rest 15 (by omega)).trans H5.n15
  have hz := W.rows_len
  refine AX.cons (AS.asg (AE.lstN (.g 15) (AEl.nil ⟨by simp, n15, ATg.cel L.k19 (by kpt_eq) ?_⟩)))
  have u0 : ∀ n, n ≠ .g 15 → n ≠ .g 8 → ((σ₆.set (.g 15) (.list [])).set (.g 8) (.cell (some (.ref (.g 15))))) n = σ₆ n := fun n h1 h2 => (Sto.set_ne h2).trans (Sto.set_ne h1)
  refine AX.cons (loop17 S L q11 ((u0 _ (by simp) (by simp)).trans W.log) W.dnd hz Sto.set_self (by kpt_eq) fun ρ₇ σ₇ p1 p2 p3 => ?_)
  refine AX.cons (AS.asg (AE.lst (AEl.nil ⟨by simp, ATg.loc ?_⟩)))
  have u1 : ∀ n, n ≠ .g 15 → n ≠ .g 8 → σ₇ n = σ₆ n := fun n h1 h2 => (p3 n h1).trans (u0 n h1 h2)
  have u2 : ∀ k, 2 ≤ k → k ≠ 15 → k ≠ 8 → σ₇ (.g k) = σ₅ (.g k) := fun k h1 h2 h3 => (u1 _ (by simp [h2]) (by simp [h3])).trans (W.rest k h1)
  have c8' : σ₇ (.g 8) = some (.cell (some (.ref (.g 15)))) := (p3 _ (by simp)).trans Sto.set_self
  refine AX.cons (loop19 S L (ρ := ρ₇.upd 21 (.lst [])) (ns := numsOf is) (done := done) (by exact (p1 4 (by omega)).trans q4) (by rfl) W.dlt hz ((u2 5 (by omega) (by omega) (by omega)).trans H5.c5) (let ⟨v, e⟩ := H5.c6; ⟨v, (u2 6 (by omega) (by omega) (by omega)).trans e⟩) c8' ((u2 11 (by omega) (by omega) (by omega)).trans H5.l11) ((u2 12 (by omega) (by omega) (by omega)).trans H5.l12) p2 fun ρ₈ σ₈ t1 t2 t3 t4 => ?_)
  have v1 : ∀ n, n ≠ .g 15 → n ≠ .g 8 → n ≠ .g 6 → σ₈ n = σ₆ n := fun n h1 h2 h3 => (t4 n h3).trans (u1 n h1 h2)
  have v2 : ∀ k, 2 ≤ k → k ≠ 15 → k ≠ 8 → k ≠ 6 → σ₈ (.g k) = σ₅ (.g k) := fun k h1 h2 h3 h4 => (t4 _ (by simp [h4])).trans (u2 k h1 h2 h3)
  have l15 := (t4 (.g 15) (by simp)).trans p2
  have c8'' := (t4 (.g 8) (by simp)).trans c8'
  have ρk : ∀ j, j ≠ 20 → j ≠ 21 → ρ₈ j = ρ₆ j := fun j h1 h2 => (t1 j h2).trans ((if_neg h2).trans (p1 j h1))
  refine AX.cons (chk20 S L (ns := numsOf is) W.dnd W.dlt hall ((ρk 11 (by omega) (by omega)).trans q11) t2 hz ((v1 _ (by simp) (by simp) (by simp)).trans W.log) (let ⟨ks, vs, E⟩ := W.ends; ⟨ks, vs, E.same (v1 _ (by simp) (by simp) (by simp))⟩) ((v2 3 (by omega) (by omega) (by omega) (by omega)).trans H5.ends) ((v2 5 (by omega) (by omega) (by omega) (by omega)).trans H5.c5) c8'' ((v2 12 (by omega) (by omega) (by omega) (by omega)).trans H5.l12) l15 ?_)
  have hD : ∀ i, i < 6 → Done (planOf (numsOf is)) σ₈ i := fun i hi => (W.fin i (hall i hi)).same fun k => v1 _ (by simp) (by simp) (by simp)
  refine AX.cons (loop21 S L W.dnd W.dlt hall W.asked (fun k hk => asked_len hk) ((ρk 3 (by omega) (by omega)).trans q3) ((ρk 14 (by omega) (by omega)).trans q14) ((v2 4 (by omega) (by omega) (by omega) (by omega)).trans H5.cens) t3 c8'' ((v2 10 (by omega) (by omega) (by omega) (by omega)).trans H5.l10) ((v2 14 (by omega) (by omega) (by omega) (by omega)).trans H5.txs) l15 hD fun σ₉ w1 w2 => ?_)
  refine AX.cons (loop22 S L (ns := numsOf is) ((ρk 13 (by omega) (by omega)).trans q13) ((w1 5 (by omega)).trans ((v2 5 (by omega) (by omega) (by omega) (by omega)).trans H5.c5)) ((w1 12 (by omega)).trans ((v2 12 (by omega) (by omega) (by omega) (by omega)).trans H5.l12)) ((w1 13 (by omega)).trans ((v2 13 (by omega) (by omega) (by omega) (by omega)).trans H5.par)) (fun i hi => ⟨(w2 i).1.trans (hD i hi).p0, (w2 i).2.trans (hD i hi).p1⟩) fun ρ₉ => ?_)
  refine AX.cons (AS.ret (AE.bool ?_))
  rfl
end
def nm5 (x : Str) : Option N5 := if x = ("roots" : Str) then some (.g 5) else if x = ("i" : Str) then some (.g 6) else if x = ("n" : Str) then some (.g 7) else if x = ("order" : Str) then some (.g 8) else if x = ("_law_want" : Str) then some (.g 2) else if x = ("centers" : Str) then some (.g 4) else if x = ("ends" : Str) then some (.g 3) else Option.none
noncomputable abbrev lawScope (P : Params) : Scope := (rowAt (KL P) f_law.addr).scope
theorem law_names (P : Params) : cellNames (lawScope P).names = ([("ends" : Str), ("centers" : Str), ("_law_want" : Str), ("order" : Str), ("n" : Str), ("i" : Str), ("roots" : Str)] : List Str) := by kernel_rfl
section
variable {O : Om}
theorem law_init (P : Params) {v : V N5} : Init (cellsSto nm5 [("script", v)] (cellNames (lawScope P).names) (fun _ => Option.none)) := by
  rw [law_names]
  have e5 : nm5 "roots" = some (.g 5) := by kernel_rfl
  have e6 : nm5 "i" = some (.g 6) := by kernel_rfl
  have e7 : nm5 "n" = some (.g 7) := by kernel_rfl
  have e8 : nm5 "order" = some (.g 8) := by kernel_rfl
  have e2 : nm5 "_law_want" = some (.g 2) := by kernel_rfl
  have e4 : nm5 "centers" = some (.g 4) := by kernel_rfl
  have e3 : nm5 "ends" = some (.g 3) := by kernel_rfl
  have bd : ∀ x : Str, (x == ("script" : Str)) = false → ([("script", v)] : List (Str × V N5)).lookup x = Option.none := fun x h => by rw [List.lookup_cons, h]; rfl
  have b5 := bd "roots" (by decide +kernel)
  have b6 := bd "i" (by decide +kernel)
  have b7 := bd "n" (by decide +kernel)
  have b8 := bd "order" (by decide +kernel)
  have b2 := bd "_law_want" (by decide +kernel)
  have b4 := bd "centers" (by decide +kernel)
  have b3 := bd "ends" (by decide +kernel)
  simp only [cellsSto, e2, e3, e4, e5, e6, e7, e8, b2, b3, b4, b5, b6, b7, b8]
  refine ⟨by kpt_eq, by kpt_eq, by kpt_eq, by kpt_eq, by kpt_eq, by kpt_eq, by kpt_eq, fun k hk => ?_, fun k i => ?_⟩
  · rw [Sto.set_ne (by simp; omega), Sto.set_ne (by simp; omega), Sto.set_ne (by simp; omega), Sto.set_ne (by simp; omega), Sto.set_ne (by simp; omega), Sto.set_ne (by simp; omega), Sto.set_ne (by simp; omega)]
  · rw [Sto.set_ne (by simp), Sto.set_ne (by simp), Sto.set_ne (by simp), Sto.set_ne (by simp), Sto.set_ne (by simp), Sto.set_ne (by simp), Sto.set_ne (by simp)]
theorem law_cx (P : Params) {v : V N5} {q : Str} : LawCx ⟨⟨lawScope P, q, true⟩, kapOf (lawScope P) nm5 [("script", v)] [], 240, .no⟩ where
  k5 := by dsimp only; unfold kapOf; kernel_rfl
  k6 := by dsimp only; unfold kapOf; kernel_rfl
  k7 := by dsimp only; unfold kapOf; kernel_rfl
  k19 := by dsimp only; unfold kapOf; kernel_rfl
  k23 := by dsimp only; unfold kapOf; kernel_rfl
  k24 := by dsimp only; unfold kapOf; kernel_rfl
  k25 := by dsimp only; unfold kapOf; kernel_rfl
  hd := rfl
  D := by show 200 ≤ 240; omega
  nest := rfl
theorem law_all (S : StL O) {l : Addr} {vs : List Value} {is : List Int} (hB : O.B.IsList l vs.toArray) (hi : IntsAre vs is) (hl : is.length < 64) {q : Str} :
    AX O ⟨⟨lawScope O.w.params, q, true⟩, kapOf (lawScope O.w.params) nm5 [("script", .st (.ref l))] [], 240, .no⟩ f_law.ms (locOf (lawScope O.w.params) [("script", .st (.ref l))]) (cellsSto nm5 [("script", .st (.ref l))] (cellNames (lawScope O.w.params).names) (fun _ => Option.none)) (fun af _ _ => af = .ret (.bool true)) (fun _ _ _ => False) :=
  law_walk S (law_cx _) hB hi hl (by unfold locOf; kernel_rfl) (law_init _)
end
abbrev tabs5 : List (Addr × Addr) := [(674, 670), (525, 521), (487, 483), (371, 367), (1034, 1032)]
abbrev news5 : List (Addr × Obj) := [(670, tabObj #[]), (521, tabObj #[]), (483, tabObj #[]), (367, tabObj #[]), (1032, tabObj #[])]
abbrev cn5 : List Str := [("ends" : Str), ("centers" : Str), ("_law_want" : Str), ("order" : Str), ("n" : Str), ("i" : Str), ("roots" : Str)]
theorem nm5_nodup : (cn5.filterMap nm5).Nodup := by
  rw [show cn5.filterMap nm5 = [.g 3, .g 4, .g 2, .g 8, .g 7, .g 6, .g 5] from by kernel_rfl]
  simp
theorem join5 {view : Program} (view_none : importsNone view = true) {w : PySem.World} {h₀ : Heap} {mg mb : Str → Option Value} {loose l' : List Str} {mean m' : ExcName → Option Value} {s : Shared} {L fa l : Addr} {m cm : Str → Option Value} {vs : List Value} {is : List Int} {cells : List (Addr × Obj)} {name : Str} {scope : Scope} {body : List PySem.Stmt} {Q : Flow → Shared → Prop} {E : Value → Shared → Prop}
    (hV : Top view l' m' mg mb h₀) (hK : (KL w.params).In (ghostOf h₀ tabs5)) (hT : Top topProg loose mean mg mb (ghostOf h₀ tabs5)) (hF : Fr (ghostOf h₀ tabs5) L s.heap m) (hX : CellsAre cm (cellsFrom (L + 1) scope.names []) cells) (hN : News (ghostOf h₀ tabs5) L s.heap (cells ++ news5)) (hL : (ghostOf h₀ tabs5).IsList l vs.toArray) (hI : IntsAre vs is) (hlen : ¬ (63 : Int) < (is.length : Int)) (hC : CodeHd (ghostOf h₀ tabs5) 1034 1032) (hx : m ("script" : Str) = some (.ref l)) (hlt : 670 < L ∧ 521 < L ∧ 483 < L ∧ 367 < L ∧ 1032 < L) (hcm : cn5.all (fun x => (cm x).isNone) = true)
    (hb : (rowAt (KL w.params) f_law.addr).body = .stmts body) (hsc : (rowAt (KL w.params) f_law.addr).scope = scope) (hq : (rowAt (KL w.params) f_law.addr).qual = name)
    (hQ : ∀ s' : Shared, (∀ b o, (ghostOf h₀ tabs5).get? b = some o → s'.heap.get? b = some o) → GrownAll tabs5 s'.heap → s'.gens = s.gens → s'.os = s.os → Q (.ret (.bool true)) s') :
    wpAny (model PySem.Challenge.rw_fc0209_05.row.prog w) (callerA.deeper (envOfC name scope L fa (.ref 1034))) (execs body (envOfC name scope L fa (.ref 1034))) Q E s := by
  subst hsc
  have hs : ∃ o, (ghostOf h₀ tabs5).get? sysModules = some o := by
    obtain ⟨mm, ⟨o, es, ep, h, _⟩, _⟩ := (hV.seer view_none).mods
    exact ⟨o, ghost_ne h (by decide)⟩
  have S : StL ⟨PySem.Challenge.rw_fc0209_05.row.prog, w, KL w.params, ghostOf h₀ tabs5, mg, mb, topProg, loose, mean, codeOfRows (rowsL w.params), qualOfRows (rowsL w.params), tabsL⟩ := by
    refine ⟨⟨hK, hT, hs⟩, ?_, ?_, ?_, ?_⟩ <;> dsimp only
  have hmem : ∀ b ∈ tabsL, b = 670 ∨ b = 521 ∨ b = 483 ∨ b = 367 ∨ b = 1032 := fun b hb => by simpa [tabsL] using hb
  refine law_fin (N := N5) (O := ⟨PySem.Challenge.rw_fc0209_05.row.prog, w, KL w.params, ghostOf h₀ tabs5, mg, mb, topProg, loose, mean, codeOfRows (rowsL w.params), qualOfRows (rowsL w.params), tabsL⟩) (e := f_law) (nm := nm5) (tabs := tabs5) (cm := cm) (news := cells ++ news5) (l := l) (P := 1032) (F_law S) rfl hb rfl hq hx (by kernel_rfl) hF rfl (fun b hb => List.mem_append_right _ ?_) hN (fun b hb => ?_) hC (.tail _ (.tail _ (.tail _ (.tail _ (.head _))))) (cl_of (cells := cells) (rest := news5) hN hX) (fun x hx => ?_) ?_ ?_ hQ
  · rcases hmem b hb with rfl | rfl | rfl | rfl | rfl <;> simp [news5]
  · obtain ⟨h1, h2, h3, h4, h5⟩ := hlt
    rcases hmem b hb with rfl | rfl | rfl | rfl | rfl <;> assumption
  · have h1 : x ∈ cellNames (lawScope w.params).names := mem_cellNames.mpr (mem_of_lookup hx)
    rw [law_names] at h1
    have := List.all_eq_true.mp hcm x h1
    exact Option.isNone_iff_eq_none.mp this
  · show ((cellNames (lawScope w.params).names).filterMap nm5).Nodup
    rw [law_names]; exact nm5_nodup
  · exact law_all S hL hI (by omega)
end Mine
open PySem PySem.W PySem.Calls PyProof.Rows PySem.Spec Mine
namespace Mine
/-! the head would write a second form, with its proof, of each of its states, and the proofs grow with the square of a state; these rows take the names of thirty of them, so that it goes on without -/
def hd.tw5515205090088283693 : Unit := ()
def hd.tw10727248033764811480 : Unit := ()
def hd.tw3350844169311001129 : Unit := ()
def hd.tw1298254639083541195 : Unit := ()
def hd.tw6529707622633924500 : Unit := ()
def hd.tw2278119957841055166 : Unit := ()
def hd.tw893649638884504383 : Unit := ()
def hd.tw3301654171414802437 : Unit := ()
def hd.tw14522556039044535566 : Unit := ()
def hd.tw18155588186719254904 : Unit := ()
def hd.tw7460195703768537125 : Unit := ()
def hd.tw3410444493855829464 : Unit := ()
def hd.tw1203448582405232857 : Unit := ()
def hd.tw1330954286162103480 : Unit := ()
def hd.tw10988662585949334943 : Unit := ()
def hd.tw16373647398549768009 : Unit := ()
def hd.tw244737055928404615 : Unit := ()
def hd.tw2261339634849524147 : Unit := ()
def hd.tw12801095385675086049 : Unit := ()
def hd.tw12929554957347739149 : Unit := ()
def hd.tw2287590429203783052 : Unit := ()
def hd.tw14194692369981509116 : Unit := ()
def hd.tw15979992855486846200 : Unit := ()
def hd.tw464777395874653626 : Unit := ()
def hd.tw16246349783247904111 : Unit := ()
def hd.tw4898149091671451737 : Unit := ()
def hd.tw8438522148716505817 : Unit := ()
def hd.tw14294344414604881677 : Unit := ()
def hd.tw4298161677043687527 : Unit := ()
def hd.tw10217079751583641481 : Unit := ()
set_option Elab.async true in
theorem hd : PySem.Challenge.rw_fc0209_05.Holds := by
  w_on; o_law; k_head
  case hw => w_witness2
  k_go0
  have hV := ‹Top Mine.hd.view_1_40 _ _ _ _ _›
  have hK : Frag.In (KL _) (ghostOf _ _) := ‹Frag.In (Mine.hd.heap_1_39 _) (ghostOf _ _)›
  have hT := ‹Top topProg _ _ _ _ _›
  have hF := ‹Fr _ _ _ _›
  have hN := ‹News _ _ _ _›
  have hX := ‹CellsAre _ _ _›
  have hL := ‹Heap.IsList (ghostOf _ _) _ _›
  have hI := ‹IntsAre _ _›
  have hC := ‹CodeHd _ (1034, 1032).fst _›
  have hg := ‹_ = (#[] : Array _)›
  have hl0 := ‹670 < _ ∧ _›
  have hc := ‹¬ ((63 : Int) < _)›
  refine Mine.join5 (s := { heap := _, gens := _, drawn := _, toks := _, os := _ }) ?_ hV hK hT hF hX hN hL hI hc hC ?_ hl0 ?_ ?_ ?_ ?_ fun s' h1 h2 h3 h4 => ⟨?_, h2⟩
  · kernel_rfl
  · kernel_rfl
  · kernel_rfl
  · kernel_rfl
  · kernel_rfl
  · kernel_rfl
  · refine Mine.good_true h1 (h3.trans hg) h4 (fun cls => ?_) ?_
    · kernel_rfl
    · kernel_rfl
end Mine
theorem PySem.Challenge.cw_fc0209_05_holds : PySem.Challenge.rw_fc0209_05.Holds :=
  Mine.hd
