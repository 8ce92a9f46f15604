import PyProof.Rows.All
import Wide.All
import OpenK.KOps
import OpenK.KList
import OpenK.KCell
import Open.Line
import KE.KSortTup
import OpenK.KMake
import OpenK.KCls
import OpenK.KWalk
import PyProof.Rows.SetFrom
import PyProof.FitsReplace
import PyProof.StrLawsIn
import PySem.Challenge.RW_oc0128_01
open PySem PySem.W PyProof.Rows
set_option Elab.async false
set_option linter.unusedVariables false
set_option maxRecDepth 100000
set_option maxHeartbeats 8000000
set_option genSizeOf false
set_option tactic.hygienic false
namespace Mine
noncomputable def pb : List Stmt := PySem.Challenge.pw_oc0128_01.main.body
noncomputable def nameOf (k : Nat) : Str := match pb[k]? with | some (.FunctionDef n _ _ _ _ _ _ _ _ _) => n | _ => Str.empty
noncomputable def paramsOf (k : Nat) : Arguments := match pb[k]? with | some (.FunctionDef _ a _ _ _ _ _ _ _ _) => a | _ => default
noncomputable def bodyOf (k : Nat) : List Stmt := match pb[k]? with | some (.FunctionDef _ _ b _ _ _ _ _ _ _) => b | _ => []
noncomputable def scopeOf (k : Nat) : Scope := match pb[k]? with | some (.FunctionDef _ _ _ _ _ _ s _ _ _) => s | _ => default

/-- a function object -/
noncomputable def FnAt (h : Heap) (a : Addr) (fd : FuncData) : Prop := (∃ o, h.get? a = some o ∧ o.data = .func fd) ∧ h.CodeRec fd.code fd.qualname

noncomputable def bltNames : List Str := ["len", "range", "enumerate", "sorted", "max", "str", "type", "set", "bool", "int", "float", "list", "tuple", "dict", "TypeError"].map Str.ofString
structure Gl where
  prog : Program
  w : World
  H : Heap
  gens : Array GenState
  os : OsState
  mg : Str → Option Value
  mb : Str → Option Value
  ga : H.Ns mainGlobals mg
  bi : H.Ns builtinsNs mb
  nob : ∀ x, bltNames.contains x = true → mg x = none
  boot : ∀ x : Str, x ≠ "__name__" → mb x = bootBuiltins x
  lim : H.NoLimit
  dig : ∃ mc, H.Ns cStatics mc ∧ mc "sys.int_max_str_digits" = none
  fn : Nat → Addr
  fnOk : ∀ k, nameOf k ≠ Str.empty → mg (nameOf k) = some (.ref (fn k)) ∧ ∃ pm cd doc, FnAt H (fn k) (Calls.docDef (nameOf k) (paramsOf k) (bodyOf k) (scopeOf k) pm cd doc)

inductive V where
  | none | bool (b : Bool) | int (i : Int) | str (s : Str) | tup (vs : List V) | rng (a b : Int) | slc (a b c : Option Int) | lst (vs : List V) | raw (x : Value)
noncomputable abbrev V.ref (a : Addr) : V := .raw (.ref a)

noncomputable def frz : Obj → Bool
  | ⟨.type c, _, .seq _ _, _⟩ => c == "tuple"
  | ⟨.type c, _, .fields _, _⟩ => c == "range" || c == "slice"
  | _ => false
noncomputable def frozen (G : Gl) (a : Addr) (o : Obj) : Prop := frz o = true ∨ G.H.get? a = some o
noncomputable def optv : Option Int → Value → Prop
  | none, y => y = .none
  | some i, y => ∃ t, y = .int i t

mutual
inductive R (G : Gl) (h : Heap) : V → Value → Prop
  | none : R G h .none .none
  | bool (b) : R G h (.bool b) (.bool b)
  | int (i t) : R G h (.int i) (.int i t)
  | str (s t) : R G h (.str s) (.str s t)
  | raw (x) : R G h (.raw x) x
  | rng {r a b t u v} : IsRange h r a b 1 t u v → R G h (.rng a b) (.ref r)
  | slc {r a b c x y z} : h.get? r = some { cls := .type "slice", data := .fields #[x, y, z] } → optv a x → optv b y → optv c z → R G h (.slc a b c) (.ref r)
  | tup {a xs n vs} : h.get? a = some { cls := .type "tuple", data := .seq xs n } → RL G h vs xs.toList → R G h (.tup vs) (.ref a)
  | lst {a o xs n vs} : G.H.get? a = some o → h.get? a = some o → o.cls = .type "list" ∧ o.data = .seq xs n → RL G h vs xs.toList → R G h (.lst vs) (.ref a)
inductive RL (G : Gl) (h : Heap) : List V → List Value → Prop
  | nil : RL G h [] []
  | cons {v x vs xs} : R G h v x → RL G h vs xs → RL G h (v :: vs) (x :: xs)
end

noncomputable def Ext (G : Gl) (h h' : Heap) : Prop := ∀ a o, h.get? a = some o → frozen G a o → h'.get? a = some o

section
variable {G : Gl} {h h' h'' : Heap}
theorem Ext.refl (h : Heap) : Ext G h h := fun _ _ e _ => e
theorem Ext.trans (x : Ext G h h') (y : Ext G h' h'') : Ext G h h'' := fun a o e f => y a o (x a o e f) f
theorem Ext.of (k : ∀ b o, h.get? b = some o → h'.get? b = some o) : Ext G h h' := fun a o e _ => k a o e
theorem Ext.push (h : Heap) (o : Obj) : Ext G h (h.push o) := .of fun _ _ e => Heap.get?_push_of_some o e
theorem R.ext (k : Ext G h h') {v x} (r : R G h v x) : R G h' v x :=
  R.rec (motive_1 := fun v x _ => R G h' v x) (motive_2 := fun vs xs _ => RL G h' vs xs) .none .bool .int .str .raw (fun e => .rng (k _ _ e (.inl rfl))) (fun e p q r => .slc (k _ _ e (.inl rfl)) p q r)
    (fun e _ i => .tup (k _ _ e (.inl rfl)) i) (fun l e g _ i => .lst l (k _ _ e (.inr l)) g i) .nil (fun _ _ a b => .cons a b) r
theorem RL.ext (k : Ext G h h') {vs xs} (r : RL G h vs xs) : RL G h' vs xs := by
  induction vs generalizing xs with
  | nil => cases r; exact .nil
  | cons v vs ih => cases r with | cons a b => exact .cons (a.ext k) (ih b)
theorem RL.length {vs xs} (r : RL G h vs xs) : vs.length = xs.length := by
  induction vs generalizing xs with
  | nil => cases r; rfl
  | cons v vs ih => cases r with | cons a b => rw [List.length_cons, List.length_cons, ih b]
theorem RL.get {vs xs} (r : RL G h vs xs) {i : Nat} {v : V} (e : vs[i]? = some v) : ∃ x, xs[i]? = some x ∧ R G h v x := by
  induction vs generalizing xs i with
  | nil => cases e
  | cons w vs ih => cases r with | cons a b => cases i with
    | zero => cases e; exact ⟨_, rfl, a⟩
    | succ i => exact ih b e
theorem RL.append {vs xs} (r : RL G h vs xs) {ws ys} (q : RL G h ws ys) : RL G h (vs ++ ws) (xs ++ ys) := by
  induction vs generalizing xs with
  | nil => cases r; exact q
  | cons w vs ih => cases r with | cons a b => exact .cons a (ih b)
theorem RL.snoc {vs xs} (r : RL G h vs xs) {v x} (q : R G h v x) : RL G h (vs ++ [v]) (xs ++ [x]) := r.append (.cons q .nil)
theorem RL.set {vs xs} (r : RL G h vs xs) (i : Nat) {v x} (q : R G h v x) : RL G h (vs.set i v) (xs.set i x) := by
  induction vs generalizing xs i with
  | nil => cases r; exact .nil
  | cons w vs ih => cases r with | cons a b => cases i with
    | zero => exact .cons q b
    | succ i => exact .cons a (ih b i)
theorem RL.take {vs xs} (r : RL G h vs xs) (i : Nat) : RL G h (vs.take i) (xs.take i) := by
  induction vs generalizing xs i with
  | nil => cases r; simpa using RL.nil
  | cons w vs ih => cases r with | cons a b => cases i with
    | zero => exact .nil
    | succ i => exact .cons a (ih b i)
theorem RL.drop {vs xs} (r : RL G h vs xs) (i : Nat) : RL G h (vs.drop i) (xs.drop i) := by
  induction vs generalizing xs i with
  | nil => cases r; simpa using RL.nil
  | cons w vs ih => cases r with | cons a b => cases i with
    | zero => exact .cons a b
    | succ i => exact ih b i
end

inductive O where
  | list (vs : List V)
  | dicS (kvs : List (Str × V))
  | dicI (kvs : List (Int × V)) (ep : Nat)
  | set1 (x : Str) (ep : Nat)
  | inst (C d : Addr)
  | attrs (kvs : List (Str × V))

noncomputable def vat {K : Type} [DecidableEq K] (kvs : List (K × V)) (k : K) : Option V := (kvs.find? fun p => p.1 = k).map (·.2)
noncomputable def setObj1 (w : World) (x : Str) (tk : Tok) (ep : Nat) (led : Bool) : Obj := { cls := .type "set", data := .set #[(hashStr w x, .str x tk)] ep { SetTable.fresh 0 0 led with place := #[SetTable.bits (hashStr w x) % 8], plain := false } }
inductive ObjR (G : Gl) (h : Heap) (a : Addr) : O → Prop
  | list {vs : List V} {xs : Array Value} : h.PlainList a xs → RL G h vs xs.toList → ObjR G h a (.list vs)
  | dicS {kvs : List (Str × V)} {ks : List (Str × Value)} : (a == sysModules) = false → h.DictOf (PySem.strKind G.prog G.w) a ks → ks.map (·.1) = kvs.map (·.1) → RL G h (kvs.map (·.2)) (ks.map (·.2)) → ObjR G h a (.dicS kvs)
  | dicI {kvs : List (Int × V)} {ep : Nat} {ks : List (Int × Value)} : (a == sysModules) = false → h.DictAt (PySem.intKind G.prog G.w) a ks ep → ks.map (·.1) = kvs.map (·.1) → RL G h (kvs.map (·.2)) (ks.map (·.2)) → ObjR G h a (.dicI kvs ep)
  | set1 {x : Str} {tk : Tok} {ep : Nat} {led : Bool} : h.get? a = some (setObj1 G.w x tk ep led) → led = !G.w.params.followText "set-order" → ObjR G h a (.set1 x ep)
  | inst {C d : Addr} : h.get? a = some (instObj C d) → ObjR G h a (.inst C d)
  | attrs {kvs : List (Str × V)} {m : Str → Option Value} : h.Ns a m → h.DictLe a kvs.length → (∀ x v, vat kvs x = some v → ∃ y, m x = some y ∧ R G h v y) → (∀ x, vat kvs x = none → m x = none) → ObjR G h a (.attrs kvs)

theorem frz_cls {o : Obj} {c : String} (h : o.cls = .type c) (h1 : (c == "tuple") = false) (h2 : (c == "range" || c == "slice") = false) : frz o = false := by
  obtain ⟨cl, d, dt, sl⟩ := o
  cases h
  cases dt <;> first | rfl | exact h1 | exact h2
theorem frz_dict {o : Obj} {es ep} (h : o.data = .dict es ep) : frz o = false := by
  obtain ⟨cl, d, dt, sl⟩ := o
  cases h
  cases cl <;> rfl
theorem frz_cell {o : Obj} {c} (h : o.data = .cell c) : frz o = false := by
  obtain ⟨cl, d, dt, sl⟩ := o
  cases h
  cases cl <;> rfl
theorem ObjR.there {G : Gl} {h : Heap} {a : Addr} {o : O} (r : ObjR G h a o) : ∃ ob, h.get? a = some ob ∧ (∀ v, ob.data ≠ .cell v) ∧ frz ob = false ∧ ∀ vs, ob.data ≠ .fields vs := by
  cases r with
  | list p _ => obtain ⟨n, he⟩ := p; exact ⟨_, he, fun _ => by simp, rfl, fun _ => by simp⟩
  | dicS _ p _ _ => obtain ⟨ob', _, _, he, hx, hd, _⟩ := p; exact ⟨_, he, fun _ => by simp [hd], frz_dict hd, fun _ => by simp [hd]⟩
  | dicI _ p _ _ => obtain ⟨ob', _, he, hx, hd, _⟩ := p; exact ⟨_, he, fun _ => by simp [hd], frz_dict hd, fun _ => by simp [hd]⟩
  | set1 p _ => exact ⟨_, p, fun _ => by simp [setObj1], rfl, fun _ => by simp [setObj1]⟩
  | inst p => exact ⟨_, p, fun _ => by simp, rfl, fun _ => by simp⟩
  | attrs p _ _ _ => obtain ⟨ob', _, _, he, hd, _⟩ := p; exact ⟨_, he, fun _ => by simp [hd], frz_dict hd, fun _ => by simp [hd]⟩
theorem ObjR.chg {G : Gl} {h h' : Heap} {a : Addr} {o : O} (r : ObjR G h a o) (x : Ext G h h') (k : ∀ ob, h.get? a = some ob → h'.get? a = some ob) : ObjR G h' a o := by
  cases r with
  | list p l => exact .list (p.at k) (l.ext x)
  | dicS m p e l => obtain ⟨ob', es, ep, he, hx⟩ := p; exact .dicS m ⟨ob', es, ep, k _ he, hx⟩ e (l.ext x)
  | dicI m p e l => exact .dicI m (p.at' k) e (l.ext x)
  | set1 p l => exact .set1 (k _ p) l
  | inst p => exact .inst (k _ p)
  | attrs p z q n => exact .attrs (p.at' k) (by obtain ⟨o, _, _, ho, _⟩ := p; exact z.of_same ho (k _ ho)) (fun y v e => let ⟨z, e1, r⟩ := q y v e; ⟨z, e1, r.ext x⟩) n

noncomputable abbrev Store := Addr → Option O
noncomputable def upd (σ : Store) (a : Addr) (o : O) : Store := fun b => if b = a then some o else σ b
theorem upd_same (σ : Store) (a : Addr) (o : O) : upd σ a o a = some o := if_pos rfl
theorem upd_ne (σ : Store) {a b : Addr} (o : O) (h : b ≠ a) : upd σ a o b = σ b := if_neg h
theorem upd_upd (σ : Store) (a : Addr) (o o' : O) : upd (upd σ a o) a o' = upd σ a o' := by
  funext b; unfold upd; split <;> rfl
set_option tactic.hygienic true in
theorem upd_self {σ : Store} {a : Addr} {o : O} (h : σ a = some o) : upd σ a o = σ := by
  funext b; unfold upd; split
  · next e => rw [e, h]
  · rfl
theorem upd_comm (σ : Store) {a b : Addr} (o o' : O) (h : a ≠ b) : upd (upd σ a o) b o' = upd (upd σ b o') a o := by
  funext c; unfold upd
  by_cases h1 : c = b
  · subst h1; simp [Ne.symm h]
  · simp [h1]

noncomputable abbrev Keep := Addr → Obj → Prop

structure HS (G : Gl) (keep : Keep) (σ : Store) (h : Heap) : Prop where
  base : ∀ a o, G.H.get? a = some o → keep a o
  kept : ∀ a o, keep a o → h.get? a = some o
  sep : ∀ a o, σ a = some o → ∀ o', ¬ keep a o'
  rep : ∀ a o, σ a = some o → ObjR G h a o

/-- `h'` is `h` but for what may be new, and but for the places `p` -/
noncomputable def But (p : Addr → Prop) (h h' : Heap) : Prop := ∀ b o, ¬ p b → h.get? b = some o → h'.get? b = some o
/-- a place that the state does not speak of -/
noncomputable def Priv (keep : Keep) (σ : Store) (h : Heap) (a : Addr) : Prop := (∀ o, ¬ keep a o) ∧ σ a = none ∧ ∀ o, h.get? a = some o → frz o = false

section
variable {G : Gl} {keep : Keep} {σ : Store} {h h' : Heap} {p : Addr → Prop}
theorem But.of {h h' : Heap} (k : ∀ b o, h.get? b = some o → h'.get? b = some o) : But (fun _ => False) h h' := fun b o _ e => k b o e
theorem But.push (h : Heap) (o : Obj) : But (fun _ => False) h (h.push o) := .of fun _ _ e => Heap.get?_push_of_some o e
theorem But.one {h h' : Heap} {a : Addr} (x : Heap.SameBut a h h') : But (· = a) h h' := fun b o n e => (x.2 b n).trans e
theorem HS.H (x : HS G keep σ h) : ∀ a o, G.H.get? a = some o → h.get? a = some o := fun a o e => x.kept a o (x.base a o e)
theorem HS.fresh (x : HS G keep σ h) {a : Addr} (e : h.get? a = none) : σ a = none := by
  cases e' : σ a with
  | none => rfl
  | some p => obtain ⟨ob, ho, _⟩ := (x.rep a p e').there; rw [e] at ho; cases ho
theorem HS.free (x : HS G keep σ h) {a : Addr} (e : h.get? a = none) (o : Obj) : ¬ keep a o := fun z => by have := x.kept _ _ z; rw [e] at this; cases this
theorem HS.ext (x : HS G keep σ h) (b : But p h h') (hp : ∀ a, p a → (∀ o, ¬ keep a o) ∧ ∀ o, h.get? a = some o → frz o = false) : Ext G h h' := fun a o e f => b a o (fun q => by
  rcases f with f | f
  · rw [(hp a q).2 o e] at f; cases f
  · exact (hp a q).1 o (x.base a o f)) e
theorem HS.priv (x : HS G keep σ h) (b : But p h h') (hp : ∀ a, p a → Priv keep σ h a) : HS G keep σ h' ∧ Ext G h h' := by
  have he : Ext G h h' := x.ext b fun a q => ⟨(hp a q).1, (hp a q).2.2⟩
  exact ⟨⟨x.base, fun a o e => b a o (fun q => (hp a q).1 o e) (x.kept a o e), x.sep,
    fun a o e => (x.rep a o e).chg he fun ob q => b a ob (fun z => by rw [(hp a z).2.1] at e; cases e) q⟩, he⟩
theorem HS.keeps (x : HS G keep σ h) (b : But (fun _ => False) h h') : HS G keep σ h' := (x.priv b fun _ q => q.elim).1
/-- one object of the store is another now -/
theorem HS.put (x : HS G keep σ h) {a : Addr} {o o' : O} (e : σ a = some o) (b : But (· = a) h h') (r : Ext G h h' → ObjR G h' a o') : HS G keep (upd σ a o') h' ∧ Ext G h h' := by
  obtain ⟨ob, ho, _, h1, _⟩ := (x.rep a o e).there
  have he : Ext G h h' := x.ext b fun c q => by
    have q' : c = a := q
    subst q'
    exact ⟨x.sep _ o e, fun o₁ e₁ => by rw [ho] at e₁; cases e₁; exact h1⟩
  refine ⟨⟨x.base, fun c o₁ q => b c o₁ (fun z => x.sep a o e o₁ (z ▸ q)) (x.kept c o₁ q), fun c o₁ q => ?_, fun c o₁ q => ?_⟩, he⟩
  · by_cases hb : c = a
    · subst hb; exact x.sep _ o e
    · rw [upd_ne _ _ hb] at q; exact x.sep c o₁ q
  · by_cases hb : c = a
    · subst hb; rw [upd_same] at q; cases q; exact r he
    · rw [upd_ne _ _ hb] at q; exact (x.rep c o₁ q).chg he fun o₂ e₂ => b c o₂ hb e₂
/-- an object comes into the store -/
theorem HS.adopt (x : HS G keep σ h) {a : Addr} {o : O} (hk : ∀ o, ¬ keep a o) (r : ObjR G h a o) : HS G keep (upd σ a o) h := by
  refine ⟨x.base, x.kept, fun c o₁ q => ?_, fun c o₁ q => ?_⟩
  · by_cases hc : c = a
    · subst hc; exact hk
    · rw [upd_ne _ _ hc] at q; exact x.sep c o₁ q
  · by_cases hc : c = a
    · subst hc; rw [upd_same] at q; cases q; exact r
    · rw [upd_ne _ _ hc] at q; exact x.rep c o₁ q
theorem HS.add (x : HS G keep σ h) {a : Addr} {o' : O} (ha : h.get? a = none) (b : But (fun _ => False) h h') (r : ObjR G h' a o') : HS G keep (upd σ a o') h' := (x.keeps b).adopt (x.free ha) r
theorem HS.less (x : HS G keep σ h) {σ' : Store} (e : ∀ a o, σ' a = some o → σ a = some o) : HS G keep σ' h :=
  ⟨x.base, x.kept, fun a o q => x.sep a o (e a _ q), fun a o q => x.rep a o (e a _ q)⟩
end

/-- the world of a state: all but the store is kept -/
noncomputable def allBut (σ : Store) (h : Heap) : Keep := fun a o => h.get? a = some o ∧ σ a = none

/-- where a name's value lies -/
structure Loc (G : Gl) (keep : Keep) (σ : Store) (env : Env) (ρ : Str → Option V) (h : Heap) : Prop where
  kind : env.scope.kind = .function
  glob : env.globals = mainGlobals
  bi : env.builtins = builtinsNs
  nk : (∀ o, ¬ keep env.locals o) ∧ σ env.locals = none
  ns : ∃ m, h.Ns env.locals m ∧ ∀ x v, env.kindOf x = some .local → ρ x = some v → ∃ y, m x = some y ∧ R G h v y
  cl : ∀ x v, env.kindOf x = some .cell → ρ x = some v → ∃ a y, env.cells.lookup x = some a ∧ h.IsCell a (some y) ∧ R G h v y
  own : env.func.isSome = true → (∀ x, env.kindOf x = some .cell → ∃ a, env.cells.lookup x = some a) ∧ (∀ x a, env.cells.lookup x = some a → (∃ c, h.IsCell a c) ∧ ∀ o, ¬ keep a o) ∧ env.cells.Pairwise (fun x y => x.2 ≠ y.2)

structure Sg (G : Gl) (keep : Keep) (σ : Store) (s : Shared) : Prop where
  gens : s.gens = G.gens
  os : s.os = G.os
  hs : HS G keep σ s.heap
structure St (G : Gl) (keep : Keep) (env : Env) (ρ : Str → Option V) (σ : Store) (s : Shared) : Prop extends Sg G keep σ s where
  loc : Loc G keep σ env ρ s.heap

section
variable {G : Gl} {keep : Keep} {σ σ' : Store} {h h' : Heap} {env : Env} {ρ : Str → Option V} {s : Shared}
theorem Loc.chg (x : Loc G keep σ env ρ h) (he : Ext G h h') (hL : ∀ o, h.get? env.locals = some o → h'.get? env.locals = some o) (hc : ∀ a o c, o.data = .cell c → h.get? a = some o → h'.get? a = some o) (hσ : σ' env.locals = none) : Loc G keep σ' env ρ h' where
  kind := x.kind
  glob := x.glob
  bi := x.bi
  nk := ⟨x.nk.1, hσ⟩
  ns := let ⟨m, n, k⟩ := x.ns; ⟨m, n.at' hL, fun y v q e => let ⟨z, e1, r⟩ := k y v q e; ⟨z, e1, r.ext he⟩⟩
  cl := fun y v q e => let ⟨a, z, e1, ⟨o, c, d⟩, r⟩ := x.cl y v q e; ⟨a, z, e1, ⟨o, hc a o _ d c, d⟩, r.ext he⟩
  own := fun f => let ⟨p, q, r⟩ := x.own f; ⟨p, fun y a e => let ⟨⟨c, o, h1, h2⟩, n⟩ := q y a e; ⟨⟨c, o, hc a o c h2 h1, h2⟩, n⟩, r⟩
theorem Loc.keeps (x : Loc G keep σ env ρ h) (b : But (fun _ => False) h h') : Loc G keep σ env ρ h' :=
  x.chg (.of fun c o e => b c o id e) (fun o e => b _ o id e) (fun a o _ _ e => b a o id e) x.nk.2
theorem St.sg (x : St G keep env ρ σ s) : Sg G (allBut σ s.heap) σ s :=
  ⟨x.gens, x.os, fun a o e => ⟨x.hs.H a o e, by
    cases q : σ a with
    | none => rfl
    | some p => exact absurd (x.hs.base a o e) (x.hs.sep a p q o)⟩, fun a o e => e.1, fun a o e o' q => (by have q2 : σ a = none := q.2; rw [e] at q2; cases q2), x.hs.rep⟩
theorem St.back2 (x : St G keep env ρ σ s) {kx : Keep} {s' : Shared} (y : Sg G kx σ' s') (he : Ext G s.heap s'.heap) (hk : ∀ a o, s.heap.get? a = some o → σ a = none → (keep a o ∨ ∀ vs, o.data ≠ .fields vs) → kx a o) : St G keep env ρ σ' s' := by
  have σk : ∀ a o, keep a o → σ a = none := fun a o e => by
    cases q : σ a with
    | none => rfl
    | some p => exact absurd e (x.hs.sep a p q o)
  have hc : ∀ a o c, o.data = .cell c → s.heap.get? a = some o → s'.heap.get? a = some o := fun a o c d e => y.hs.kept a o (hk a o e (by
    cases q : σ a with
    | none => rfl
    | some p => obtain ⟨ob, ho, nc, _⟩ := (x.hs.rep a p q).there; rw [e] at ho; cases ho; exact absurd d (nc c)) (.inr fun vs z => by rw [d] at z; cases z))
  obtain ⟨m, ⟨oL, _, _, eL, dL, _⟩, _⟩ := x.loc.ns
  have kL : kx env.locals oL := hk _ oL eL x.loc.nk.2 (.inr fun vs z => by rw [dL] at z; cases z)
  refine ⟨⟨y.gens, y.os, x.hs.base, fun a o e => y.hs.kept a o (hk a o (x.hs.kept a o e) (σk a o e) (.inl e)), fun a o e o' q => y.hs.sep a o e o' (hk a o' (x.hs.kept a o' q) (σk a o' q) (.inl q)), y.hs.rep⟩,
    x.loc.chg he (fun o e => by rw [eL] at e; cases e; exact y.hs.kept _ _ kL) hc ?_⟩
  cases q : σ' env.locals with
  | none => rfl
  | some p => exact absurd kL (y.hs.sep _ p q oL)
theorem St.back (x : St G keep env ρ σ s) {s' : Shared} (y : Sg G (allBut σ s.heap) σ' s') (he : Ext G s.heap s'.heap) : St G keep env ρ σ' s' := x.back2 y he fun a o e q _ => ⟨e, q⟩
theorem St.tok (x : St G keep env ρ σ s) {tk : Nat} : St G keep env ρ σ { s with toks := tk } := ⟨⟨x.gens, x.os, x.hs⟩, x.loc⟩
theorem Sg.tok (x : Sg G keep σ s) {tk : Nat} : Sg G keep σ { s with toks := tk } := ⟨x.gens, x.os, x.hs⟩
end

structure Room (A : Around) (n : Nat) : Prop where
  hd : A.handled = none
  depth : A.depth + n ≤ 900
  units : A.units + 100 * n ≤ 9000
theorem Room.less {A : Around} {n m : Nat} (x : Room A n) (h : m ≤ n) : Room A m := ⟨x.hd, by have := x.depth; (first | lia | omega), by have := x.units; (first | lia | omega)⟩
theorem Room.deeper {A : Around} {n : Nat} {env : Env} (x : Room A (n + 1)) : Room (A.deeper env) n := ⟨x.hd, by have := x.depth; show A.depth + 1 + n ≤ 900; (first | lia | omega), by have := x.units; show A.units + 3 + 100 * n ≤ 9000; (first | lia | omega)⟩
theorem Room.in1 {A : Around} {n : Nat} (x : Room A (n + 1)) : Room A.in1 n := ⟨x.hd, by have := x.depth; show A.depth + n ≤ 900; (first | lia | omega), by have := x.units; show A.units + 1 + 100 * n ≤ 9000; (first | lia | omega)⟩
noncomputable abbrev MM (G : Gl) : Model := model G.prog G.w
noncomputable abbrev Rho := Str → Option V
noncomputable def setv (ρ : Rho) (x : Str) (v : V) : Rho := fun y => if y = x then some v else ρ y

/-- what an evaluation leaves -/
noncomputable def pv (G : Gl) (P : Store → Shared → Prop) (h : Heap) (Q : V → Store → Prop) : Value → Shared → Prop :=
  fun x s' => Ext G h s'.heap ∧ ∃ v σ', P σ' s' ∧ R G s'.heap v x ∧ Q v σ'
noncomputable def pb_ (G : Gl) (P : Store → Shared → Prop) (h : Heap) (Q : Bool → Store → Prop) : Bool → Shared → Prop :=
  fun x s' => Ext G h s'.heap ∧ ∃ σ', P σ' s' ∧ Q x σ'
noncomputable def pl (G : Gl) (P : Store → Shared → Prop) (h : Heap) (Q : List V → Store → Prop) : List Value → Shared → Prop :=
  fun xs s' => Ext G h s'.heap ∧ ∃ vs σ', P σ' s' ∧ RL G s'.heap vs xs ∧ Q vs σ'

inductive F where
  | next | brk | cont | ret (v : V)
inductive FR (G : Gl) (h : Heap) : F → Flow → Prop
  | next : FR G h .next .next
  | brk : FR G h .brk .brk
  | cont : FR G h .cont .cont
  | ret {v x} : R G h v x → FR G h (.ret v) (.ret x)

section
variable (G : Gl) (A : Around) (env : Env)
noncomputable def EV (e : Expr) (ρ : Rho) (σ : Store) (Q : V → Store → Prop) : Prop := ∀ keep s E, St G keep env ρ σ s → wpAny (MM G) A (eval e env) (pv G (St G keep env ρ) s.heap Q) E s
noncomputable def TR (e : Expr) (ρ : Rho) (σ : Store) (Q : Bool → Store → Prop) : Prop := ∀ keep s E, St G keep env ρ σ s → wpAny (MM G) A (isTrue e env (eval e env)) (pb_ G (St G keep env ρ) s.heap Q) E s
noncomputable def EL (pos : Pos) (es : List Expr) (ρ : Rho) (σ : Store) (Q : List V → Store → Prop) : Prop := ∀ keep s E, St G keep env ρ σ s → wpAny (MM G) A (spliced (backTo pos (starEach es env))) (pl G (St G keep env ρ) s.heap Q) E s
noncomputable def EX (b : List Stmt) (ρ : Rho) (σ : Store) (Q : F → Rho → Store → Prop) : Prop := ∀ keep s E, St G keep env ρ σ s → wpAny (MM G) A (execs b env) (fun fl s' => Ext G s.heap s'.heap ∧ ∃ f ρ' σ', FR G s'.heap f fl ∧ St G keep env ρ' σ' s' ∧ Q f ρ' σ') E s
noncomputable def ES (b : Stmt) (ρ : Rho) (σ : Store) (Q : F → Rho → Store → Prop) : Prop := ∀ keep s E, St G keep env ρ σ s → wpAny (MM G) A (exec b env) (fun fl s' => Ext G s.heap s'.heap ∧ ∃ f ρ' σ', FR G s'.heap f fl ∧ St G keep env ρ' σ' s' ∧ Q f ρ' σ') E s
noncomputable def AS (t : Expr) (v : V) (ρ : Rho) (σ : Store) (Q : Rho → Store → Prop) : Prop := ∀ keep s x E, St G keep env ρ σ s → R G s.heap v x → wpAny (MM G) A (assign t env x) (fun _ s' => Ext G s.heap s'.heap ∧ ∃ ρ' σ', St G keep env ρ' σ' s' ∧ Q ρ' σ') E s
/-- a step on values: a tree for every two values -/
noncomputable def OP (t : Value → Value → Sem Value) (a b : V) (σ : Store) (Q : V → Store → Prop) : Prop := ∀ keep s x y E, Sg G keep σ s → R G s.heap a x → R G s.heap b y → wpAny (MM G) A (t x y) (pv G (Sg G keep) s.heap Q) E s
noncomputable def TV (a : V) (σ : Store) (Q : Bool → Store → Prop) : Prop := ∀ keep s x E, Sg G keep σ s → R G s.heap a x → wpAny (MM G) A (truthy x) (pb_ G (Sg G keep) s.heap Q) E s
noncomputable def FN (f : Value) (vs : List V) (σ : Store) (Q : V → Store → Prop) : Prop := ∀ keep s xs E, Sg G keep σ s → RL G s.heap vs xs → wpAny (MM G) A (call f xs) (pv G (Sg G keep) s.heap Q) E s
noncomputable abbrev opK (t : Value → Value → Sem Value) (Q : V → Store → Prop) (a : V) : V → Store → Prop := fun b σ => OP G A t a b σ Q
noncomputable abbrev binK (r : Expr) (t : Value → Value → Sem Value) (ρ : Rho) (Q : V → Store → Prop) : V → Store → Prop := fun a σ => EV G A env r ρ σ (opK G A t Q a)
noncomputable abbrev tvK (Q : Bool → Store → Prop) : V → Store → Prop := fun v σ => TV G A v σ Q
noncomputable abbrev andK (e : Expr) (ρ : Rho) (Q : Bool → Store → Prop) : Bool → Store → Prop := fun b σ => if b = true then TR G A env e ρ σ Q else Q false σ
noncomputable abbrev orK (e : Expr) (ρ : Rho) (Q : Bool → Store → Prop) : Bool → Store → Prop := fun b σ => if b = true then Q true σ else TR G A env e ρ σ Q
noncomputable abbrev iteK (x y : Expr) (ρ : Rho) (Q : V → Store → Prop) : Bool → Store → Prop := fun b σ => if b = true then EV G A env x ρ σ Q else EV G A env y ρ σ Q
noncomputable abbrev siteK (x y : List Stmt) (ρ : Rho) (Q : F → Rho → Store → Prop) : Bool → Store → Prop := fun b σ => if b = true then EX G A env x ρ σ Q else EX G A env y ρ σ Q
noncomputable abbrev elK' (Q : List V → Store → Prop) (v : V) : List V → Store → Prop := fun vs σ => Q (v :: vs) σ
noncomputable abbrev elK (pos : Pos) (es : List Expr) (ρ : Rho) (Q : List V → Store → Prop) : V → Store → Prop := fun v σ => EL G A env pos es ρ σ (elK' Q v)
noncomputable abbrev seqK (bs : List Stmt) (Q : F → Rho → Store → Prop) : F → Rho → Store → Prop := fun f ρ σ => match f with | .next => EX G A env bs ρ σ Q | f => Q f ρ σ
noncomputable abbrev asgK (t : Expr) (ρ : Rho) (Q : Rho → Store → Prop) : V → Store → Prop := fun v σ => AS G A env t v ρ σ Q
noncomputable abbrev retK (ρ : Rho) (Q : F → Rho → Store → Prop) : V → Store → Prop := fun v σ => Q (.ret v) ρ σ
noncomputable abbrev tupK (Q : V → Store → Prop) : List V → Store → Prop := fun vs σ => vs.length ≤ 1000 ∧ Q (.tup vs) σ
noncomputable abbrev lstK (Q : V → Store → Prop) : List V → Store → Prop := fun vs σ => vs.length ≤ 1000 ∧ ∀ a, σ a = none → Q (.ref a) (upd σ a (.list vs))
noncomputable abbrev fnK (f : Value) (Q : V → Store → Prop) : List V → Store → Prop := fun vs σ => FN G A f vs σ Q
end

section
variable {G : Gl} {A : Around} {env : Env} {ρ : Rho} {σ : Store} {Q : V → Store → Prop} {keep : Keep} {s : Shared} {E : Value → Shared → Prop}

theorem pv.up {P : Store → Shared → Prop} {h h' : Heap} {x : Value} {s' : Shared} (e : Ext G h h') (p : pv G P h' Q x s') : pv G P h Q x s' := ⟨e.trans p.1, p.2⟩
/-- a value's step in a frame -/
theorem lift {t : Sem Value} (st : St G keep env ρ σ s) (h : wpAny (MM G) A t (pv G (Sg G (allBut σ s.heap)) s.heap Q) E s) : wpAny (MM G) A t (pv G (St G keep env ρ) s.heap Q) E s :=
  wpAny_mono h (fun x s' ⟨e, v, σ', g, r, q⟩ => ⟨e, v, σ', st.back g e, r, q⟩) fun _ _ x => x
theorem liftB {t : Sem Bool} {Q : Bool → Store → Prop} (st : St G keep env ρ σ s) (h : wpAny (MM G) A t (pb_ G (Sg G (allBut σ s.heap)) s.heap Q) E s) : wpAny (MM G) A t (pb_ G (St G keep env ρ) s.heap Q) E s :=
  wpAny_mono h (fun x s' ⟨e, σ', g, q⟩ => ⟨e, σ', st.back g e, q⟩) fun _ _ x => x
/-- nothing changes but the clock -/
theorem pv.here {P : Store → Shared → Prop} {x : Value} {v : V} {tk : Nat} (hp : P σ { s with toks := tk }) (r : R G s.heap v x) (q : Q v σ) : pv G P s.heap Q x { s with toks := tk } := ⟨.refl _, v, σ, hp, r, q⟩

theorem EV.mono {e : Expr} {Q' : V → Store → Prop} (h : EV G A env e ρ σ Q) (k : ∀ v σ', Q v σ' → Q' v σ') : EV G A env e ρ σ Q' :=
  fun keep s E st => wpAny_mono (h keep s E st) (fun _ _ ⟨e, v, σ', g, r, q⟩ => ⟨e, v, σ', g, r, k _ _ q⟩) fun _ _ x => x
theorem EV.int {i : Int} {k : Nat} {pos : Pos} (q : Q (.int i) σ) : EV G A env (.Constant (.int i) k pos) ρ σ Q := fun keep s E st => wpAny_Constant_int (pv.here st.tok (.int _ _) q)
theorem EV.cstr {i : Str} {k : Nat} {pos : Pos} (q : Q (.str i) σ) : EV G A env (.Constant (.str i) k pos) ρ σ Q := fun keep s E st => wpAny_Constant_str (pv.here st.tok (.str _ _) q)
theorem EV.cnone {k : Nat} {pos : Pos} (q : Q .none σ) : EV G A env (.Constant .none k pos) ρ σ Q := fun keep s E st => wpAny_Constant_none (pv.here (tk := s.toks) st .none q)
theorem EV.cbool {b : Bool} {k : Nat} {pos : Pos} (q : Q (.bool b) σ) : EV G A env (.Constant (.bool b) k pos) ρ σ Q := fun keep s E st => wpAny_Constant_bool (pv.here (tk := s.toks) st (.bool b) q)
theorem EV.loc {x : Str} {pos : Pos} {v : V} (hv : ρ x = some v) (q : Q v σ) (hk : env.kindOf x = some .local := by rfl) (hd : (x == ("__debug__" : Str)) = false := by decide) : EV G A env (.Name x pos) ρ σ Q := fun keep s E st => by
  obtain ⟨m, n, k⟩ := st.loc.ns
  obtain ⟨y, e1, r⟩ := k x v hk hv
  exact wpAny_Name (wpAny_loadName_local st.loc.kind hk n e1 (pv.here (tk := s.toks) st r q)) hd
theorem EV.cell {x : Str} {pos : Pos} {v : V} (hv : ρ x = some v) (q : Q v σ) (hk : env.kindOf x = some .cell := by rfl) (hd : (x == ("__debug__" : Str)) = false := by decide) : EV G A env (.Name x pos) ρ σ Q := fun keep s E st => by
  obtain ⟨a, y, e1, c, r⟩ := st.loc.cl x v hk hv
  exact wpAny_Name (wpAny_loadName_cell st.loc.kind hk e1 c (pv.here (tk := s.toks) st r q)) hd
theorem Heap.Ns.up {h h' : Heap} {a m} (x : h.Ns a m) (k : ∀ b o, h.get? b = some o → h'.get? b = some o) : h'.Ns a m := x.keeps k
theorem EV.glob {x : Str} {pos : Pos} {v : V} {y : Value} (hv : G.mg x = some y) (r : ∀ h, Ext G G.H h → R G h v y) (q : Q v σ) (hk : env.kindOf x = some .globalImplicit := by rfl) (hd : (x == ("__debug__" : Str)) = false := by decide) : EV G A env (.Name x pos) ρ σ Q := fun keep s E st =>
  Calls.Name_function_global st.loc.kind hk (Calls.loadGlobal_global (by rw [st.loc.glob]; exact G.ga.keeps st.hs.H) hv (pv.here (tk := s.toks) st (r _ (.of st.hs.H)) q)) hd
theorem EV.blt {x : Str} {pos : Pos} {y : Value} (hm : G.mg x = none) (hv : bootBuiltins x = some y) (q : Q (.raw y) σ) (hk : env.kindOf x = some .globalImplicit := by rfl) (hn : x ≠ "__name__" := by decide) (hd : (x == ("__debug__" : Str)) = false := by decide) : EV G A env (.Name x pos) ρ σ Q := fun keep s E st =>
  Calls.Name_function_global st.loc.kind hk (Calls.loadGlobal_builtin (by rw [st.loc.glob]; exact G.ga.keeps st.hs.H) hm (by rw [st.loc.bi]; exact G.bi.keeps st.hs.H) ((G.boot x hn).trans hv) (pv.here (tk := s.toks) st (.raw _) q)) hd

theorem EV.bin {l r : Expr} {op : Operator} {pos : Pos} (h : EV G A env l ρ σ (binK G A env r (binaryOp op) ρ Q)) : EV G A env (.BinOp l op r pos) ρ σ Q := fun keep s E st =>
  wpAny_BinOp (wpAny_mono (h keep s E st) (fun x s₁ ⟨e₁, a, σ₁, st₁, ra, h₁⟩ => wpAny_mono (h₁ keep s₁ E st₁) (fun y s₂ ⟨e₂, b, σ₂, st₂, rb, h₂⟩ =>
    wpAny_mono (lift st₂ (h₂ _ s₂ x y E st₂.sg (ra.ext e₂) rb)) (fun _ _ p => (p.up e₂).up e₁) fun _ _ x => x) fun _ _ x => x) fun _ _ x => x)
theorem EV.cmp {l r : Expr} {op : CmpOp} {pos : Pos} (h : EV G A env l ρ σ (binK G A env r (compareOp op) ρ Q)) (hm : behindInMarks op r = false := by with_unfolding_all rfl) : EV G A env (.Compare l [op] [r] pos) ρ σ Q := fun keep s E st =>
  wpAny_Compare1 (wpAny_mono (h keep s E st) (fun x s₁ ⟨e₁, a, σ₁, st₁, ra, h₁⟩ => wpAny_mono (h₁ keep s₁ E st₁) (fun y s₂ ⟨e₂, b, σ₂, st₂, rb, h₂⟩ =>
    wpAny_mono (lift st₂ (h₂ _ s₂ x y E st₂.sg (ra.ext e₂) rb)) (fun _ _ p => (p.up e₂).up e₁) fun _ _ x => x) fun _ _ x => x) fun _ _ x => x) hm
theorem TR.cmp {l r : Expr} {op : CmpOp} {pos : Pos} {Q : Bool → Store → Prop} (h : EV G A env l ρ σ (binK G A env r (compareOp op) ρ (tvK G A Q))) (hm : behindInMarks op r = false := by with_unfolding_all rfl) : TR G A env (.Compare l [op] [r] pos) ρ σ Q := fun keep s E st =>
  wpAny_isTrue_Compare1 (wpAny_mono (h keep s E st) (fun x s₁ ⟨e₁, a, σ₁, st₁, ra, h₁⟩ => wpAny_mono (h₁ keep s₁ E st₁) (fun y s₂ ⟨e₂, b, σ₂, st₂, rb, h₂⟩ =>
    wpAny_mono (lift st₂ (h₂ _ s₂ x y E st₂.sg (ra.ext e₂) rb)) (fun z s₃ ⟨e₃, c, σ₃, st₃, rc, h₃⟩ => wpAny_mono (liftB st₃ (h₃ _ s₃ z E st₃.sg rc)) (fun _ _ p => ⟨((e₁.trans e₂).trans e₃).trans p.1, p.2⟩) fun _ _ x => x) fun _ _ x => x) fun _ _ x => x) fun _ _ x => x) hm
theorem TR.val {e : Expr} {Q : Bool → Store → Prop} (h : EV G A env e ρ σ (tvK G A Q)) (he : isTrue e env (eval e env) = (do let v ← eval e env; standAt e.pos; holding [v] (truthy v)) := by rfl) : TR G A env e ρ σ Q := fun keep s E st =>
  isTrue_plain (wpAny_mono (h keep s E st) (fun z s₃ ⟨e₃, c, σ₃, st₃, rc, h₃⟩ => wpAny_mono (liftB st₃ (h₃ _ s₃ z E st₃.sg rc)) (fun _ _ p => ⟨e₃.trans p.1, p.2⟩) fun _ _ x => x) fun _ _ x => x) he
theorem TR.not {e : Expr} {pos : Pos} {Q : Bool → Store → Prop} (h : TR G A env e ρ σ fun b σ' => Q (!b) σ') : TR G A env (.UnaryOp .Not e pos) ρ σ Q := fun keep s E st => wpAny_isTrue_Not (h keep s E st)
theorem TR.and0 {pos : Pos} {Q : Bool → Store → Prop} (q : Q true σ) : TR G A env (.BoolOp .And [] pos) ρ σ Q := fun keep s E st => isTrue_and_nil ⟨.refl _, σ, st, q⟩
theorem TR.or0 {pos : Pos} {Q : Bool → Store → Prop} (q : Q false σ) : TR G A env (.BoolOp .Or [] pos) ρ σ Q := fun keep s E st => isTrue_or_nil ⟨.refl _, σ, st, q⟩
theorem TR.and {e : Expr} {es : List Expr} {pos : Pos} {Q : Bool → Store → Prop} (h : TR G A env e ρ σ (andK G A env (.BoolOp .And es pos) ρ Q)) : TR G A env (.BoolOp .And (e :: es) pos) ρ σ Q := fun keep s E st =>
  isTrue_and (wpAny_mono (h keep s E st) (fun b s₁ ⟨e₁, σ₁, st₁, h₁⟩ => by
    cases b
    · exact ⟨e₁, σ₁, st₁, h₁⟩
    · exact wpAny_mono (h₁ keep s₁ E st₁) (fun _ _ p => ⟨e₁.trans p.1, p.2⟩) fun _ _ x => x) fun _ _ x => x)
theorem TR.or {e : Expr} {es : List Expr} {pos : Pos} {Q : Bool → Store → Prop} (h : TR G A env e ρ σ (orK G A env (.BoolOp .Or es pos) ρ Q)) : TR G A env (.BoolOp .Or (e :: es) pos) ρ σ Q := fun keep s E st =>
  isTrue_or (wpAny_mono (h keep s E st) (fun b s₁ ⟨e₁, σ₁, st₁, h₁⟩ => by
    cases b
    · exact wpAny_mono (h₁ keep s₁ E st₁) (fun _ _ p => ⟨e₁.trans p.1, p.2⟩) fun _ _ x => x
    · exact ⟨e₁, σ₁, st₁, h₁⟩) fun _ _ x => x)
theorem EV.ite {t a b : Expr} {pos : Pos} (h : TR G A env t ρ σ (iteK G A env a b ρ Q)) : EV G A env (.IfExp t a b pos) ρ σ Q := fun keep s E st =>
  wpAny_IfExp (wpAny_mono (h keep s E st) (fun c s₁ ⟨e₁, σ₁, st₁, h₁⟩ => by
    cases c
    · exact wpAny_mono (h₁ keep s₁ E st₁) (fun _ _ p => p.up e₁) fun _ _ x => x
    · exact wpAny_mono (h₁ keep s₁ E st₁) (fun _ _ p => p.up e₁) fun _ _ x => x) fun _ _ x => x)
theorem EL.nil {pos : Pos} {Q : List V → Store → Prop} (q : Q [] σ) : EL G A env pos [] ρ σ Q := fun keep s E st => PyProof.Rows.spliced_none ⟨.refl _, [], σ, st, .nil, q⟩
end
section
variable {G : Gl} {A : Around} {env : Env} {ρ : Rho} {σ : Store} {Q : V → Store → Prop} {keep : Keep} {s : Shared} {E : Value → Shared → Prop}

theorem EL.cons {pos : Pos} {e : Expr} {es : List Expr} {Q : List V → Store → Prop} (h : EV G A env e ρ σ (elK G A env pos es ρ Q))
    (he : starEach (e :: es) env = (false, eval e env) :: starEach es env := by rfl) : EL G A env pos (e :: es) ρ σ Q := fun keep s E st =>
  PyProof.Rows.spliced_more (wpAny_mono (h keep s E st) (fun x s₁ ⟨e₁, v, σ₁, st₁, r₁, h₁⟩ => wpAny_mono (h₁ keep s₁ E st₁) (fun xs s₂ ⟨e₂, vs, σ₂, st₂, r₂, q⟩ => ⟨e₁.trans e₂, v :: vs, σ₂, st₂, .cons (r₁.ext e₂) r₂, q⟩) fun _ _ x => x) fun _ _ x => x) he
theorem Heap.size_none (h : Heap) : h.get? h.objs.size = none := by
  cases q : h.get? h.objs.size with
  | none => rfl
  | some o => exact absurd (Heap.lt_size q) (Nat.lt_irrefl _)
theorem Sg.alloc (g : Sg G keep σ s) (o : Obj) : Sg G keep σ { s with heap := s.heap.push o } := ⟨g.gens, g.os, g.hs.keeps (But.push _ _)⟩
/-- a new list, a new tuple -/
theorem newTuple_ {vs : List V} {xs : List Value} (st : St G keep env ρ σ s) (r : RL G s.heap vs xs) (hz : vs.length ≤ 1000) (q : Q (.tup vs) σ) : wpAny (MM G) A (newTuple xs) (pv G (St G keep env ρ) s.heap Q) E s :=
  wpAny_newObj_type ⟨.push _ _, .tup vs, σ, ⟨⟨st.gens, st.os, st.hs.keeps (But.push _ _)⟩, st.loc.keeps (But.push _ _)⟩, .tup (n := 0) (Heap.get?_push_size _ rfl) (r.ext (.push _ _)), q⟩
    (by show xs.toArray.size ≤ sizeLine; rw [List.size_toArray, ← r.length]; exact Nat.le_trans hz (by decide))
theorem Sg.newList {vs : List V} {xs : List Value} {n : Nat} (g : Sg G keep σ s) (r : RL G s.heap vs xs) : Sg G keep (upd σ s.heap.objs.size (.list vs)) { s with heap := s.heap.push { cls := .type "list", data := .seq xs.toArray n } } :=
  ⟨g.gens, g.os, g.hs.add (Heap.size_none _) (But.push _ _) (.list ⟨n, Heap.get?_push_size _ rfl⟩ (r.ext (.push _ _)))⟩
theorem newList_ {vs : List V} {xs : List Value} (g : Sg G keep σ s) (r : RL G s.heap vs xs) (hz : vs.length ≤ 1000) (q : ∀ a, σ a = none → Q (.ref a) (upd σ a (.list vs))) : wpAny (MM G) A (newList xs) (pv G (Sg G keep) s.heap Q) E s :=
  wpAny_newObj_type ⟨.push _ _, .ref s.heap.objs.size, _, g.newList r, .raw _, q _ (g.hs.fresh (Heap.size_none _))⟩
    (by show xs.toArray.size ≤ sizeLine; rw [List.size_toArray, ← r.length]; exact Nat.le_trans hz (by decide))
theorem EV.tup {es : List Expr} {k : Nat} {pos : Pos} (h : EL G A env pos es ρ σ (tupK Q)) : EV G A env (.Tuple es k pos) ρ σ Q := fun keep s E st =>
  Tuple_ (wpAny_mono (h keep s E st) (fun xs s₁ ⟨e₁, vs, σ₁, st₁, r₁, hz, q⟩ => wpAny_mono (newTuple_ st₁ r₁ hz q) (fun _ _ p => p.up e₁) fun _ _ x => x) fun _ _ x => x)
theorem EV.list {es : List Expr} {pos : Pos} (h : EL G A env pos es ρ σ (lstK Q)) : EV G A env (.List es pos) ρ σ Q := fun keep s E st =>
  List_ (wpAny_mono (h keep s E st) (fun xs s₁ ⟨e₁, vs, σ₁, st₁, r₁, hz, q⟩ => wpAny_mono (lift st₁ (newList_ st₁.sg r₁ hz q)) (fun _ _ p => p.up e₁) fun _ _ x => x) fun _ _ x => x)

/-- statements -/
theorem EX.nil {Q : F → Rho → Store → Prop} (q : Q .next ρ σ) : EX G A env [] ρ σ Q := fun keep s E st => wpAny_execs_nil ⟨.refl _, .next, ρ, σ, .next, st, q⟩
theorem EX.cons {b : Stmt} {bs : List Stmt} {Q : F → Rho → Store → Prop} (h : ES G A env b ρ σ (seqK G A env bs Q)) : EX G A env (b :: bs) ρ σ Q := fun keep s E st =>
  wpAny_execs_cons (wpAny_mono (h keep s E st) (fun fl s₁ ⟨e₁, f, ρ₁, σ₁, r, st₁, h₁⟩ => by
    cases r with
    | next => exact wpAny_mono (h₁ keep s₁ E st₁) (fun _ _ p => ⟨e₁.trans p.1, p.2⟩) fun _ _ x => x
    | brk => exact ⟨e₁, _, ρ₁, σ₁, .brk, st₁, h₁⟩
    | cont => exact ⟨e₁, _, ρ₁, σ₁, .cont, st₁, h₁⟩
    | ret r => exact ⟨e₁, _, ρ₁, σ₁, .ret r, st₁, h₁⟩) fun _ _ x => x)
theorem EX.mono {b : List Stmt} {Q Q' : F → Rho → Store → Prop} (h : EX G A env b ρ σ Q) (k : ∀ f ρ σ, Q f ρ σ → Q' f ρ σ) : EX G A env b ρ σ Q' :=
  fun keep s E st => wpAny_mono (h keep s E st) (fun _ _ ⟨e, f, ρ', σ', r, g, q⟩ => ⟨e, f, ρ', σ', r, g, k _ _ _ q⟩) fun _ _ x => x
theorem ES.ret {e : Expr} {pos : Pos} {Q : F → Rho → Store → Prop} (h : EV G A env e ρ σ (retK ρ Q)) : ES G A env (.Return (some e) pos) ρ σ Q := fun keep s E st =>
  wpAny_Return_some (wpAny_mono (h keep s E st) (fun _ _ ⟨e, v, σ', g, r, q⟩ => ⟨e, _, ρ, σ', .ret r, g, q⟩) fun _ _ x => x)
theorem ES.ite {t : Expr} {a b : List Stmt} {pos : Pos} {Q : F → Rho → Store → Prop} (h : TR G A env t ρ σ (siteK G A env a b ρ Q)) : ES G A env (.If t a b pos) ρ σ Q := fun keep s E st =>
  wpAny_If (wpAny_mono (h keep s E st) (fun c s₁ ⟨e₁, σ₁, st₁, h₁⟩ => by
    cases c
    · exact wpAny_mono (h₁ keep s₁ E st₁) (fun _ _ p => ⟨e₁.trans p.1, p.2⟩) fun _ _ x => x
    · exact wpAny_mono (h₁ keep s₁ E st₁) (fun _ _ p => ⟨e₁.trans p.1, p.2⟩) fun _ _ x => x) fun _ _ x => x)
theorem ES.brk {pos : Pos} {Q : F → Rho → Store → Prop} (q : Q .brk ρ σ) : ES G A env (.Break pos) ρ σ Q := fun keep s E st => wpAny_Break ⟨.refl _, .brk, ρ, σ, .brk, st, q⟩
theorem ES.cont {pos : Pos} {Q : F → Rho → Store → Prop} (q : Q .cont ρ σ) : ES G A env (.Continue pos) ρ σ Q := fun keep s E st => wpAny_Continue ⟨.refl _, .cont, ρ, σ, .cont, st, q⟩

/-- a name is stored -/
theorem St.setL {m : Str → Option Value} {h' : Heap} {x : Str} {v : V} {y : Value} {tk : Nat} (st : St G keep env ρ σ s) (k : ∀ x v, env.kindOf x = some .local → ρ x = some v → ∃ y, m x = some y ∧ R G s.heap v y) (hk : env.kindOf x = some .local) (r : R G s.heap v y)
    (n' : h'.Ns env.locals (fun z => if z = x then some y else m z)) (n : s.heap.Ns env.locals m) (sb : Heap.SameBut env.locals s.heap h') : St G keep env (setv ρ x v) σ { s with heap := h', toks := tk } ∧ Ext G s.heap h' := by
  obtain ⟨o, es, ep, eo, ed, _⟩ := n
  have b := But.one sb
  obtain ⟨hs', he⟩ := st.hs.priv b fun a q => by
    have q' : a = env.locals := q
    subst q'
    exact ⟨st.loc.nk.1, st.loc.nk.2, fun o' e' => by rw [eo] at e'; cases e'; exact frz_dict ed⟩
  have hc : ∀ a c, s.heap.IsCell a c → h'.IsCell a c := fun a c ⟨o', e', d'⟩ => ⟨o', b a o' (fun z => by
    have z' : a = env.locals := z
    rw [z', eo] at e'; cases e'; rw [ed] at d'; cases d') e', d'⟩
  refine ⟨⟨⟨st.gens, st.os, hs'⟩, st.loc.kind, st.loc.glob, st.loc.bi, st.loc.nk, ⟨_, n', fun z w hz e => ?_⟩, fun z w hz e => ?_, fun f => ?_⟩, he⟩
  · unfold setv at e
    by_cases hzx : z = x
    · subst hzx
      rw [if_pos rfl] at e; cases e
      exact ⟨y, if_pos rfl, r.ext he⟩
    · rw [if_neg hzx] at e
      obtain ⟨y', e1, r'⟩ := k z w hz e
      exact ⟨y', by rw [if_neg hzx]; exact e1, r'.ext he⟩
  · unfold setv at e
    by_cases hzx : z = x
    · subst hzx; rw [hk] at hz; cases hz
    · rw [if_neg hzx] at e
      obtain ⟨a, y', e1, c, r'⟩ := st.loc.cl z w hz e
      exact ⟨a, y', e1, hc _ _ c, r'.ext he⟩
  · obtain ⟨p, q, w⟩ := st.loc.own f
    exact ⟨p, fun z a e => let ⟨⟨c, hc'⟩, n⟩ := q z a e; ⟨⟨c, hc _ _ hc'⟩, n⟩, w⟩
theorem AS.loc {x : Str} {pos : Pos} {v : V} {Q : Rho → Store → Prop} (q : Q (setv ρ x v) σ) (hk : env.kindOf x = some .local := by rfl) : AS G A env (.Name x pos) v ρ σ Q := fun keep s y E st r => by
  obtain ⟨m, n, k⟩ := st.loc.ns
  exact wpAny_assign_Name (wpAny_storeName_local hk n (fun h' n' sb => by
    obtain ⟨st', he⟩ := st.setL (tk := s.toks + 1) k hk r n' n sb
    exact ⟨he, _, σ, st', q⟩) (by rw [st.loc.kind]; rfl))
theorem AS.cell {x : Str} {pos : Pos} {v : V} {Q : Rho → Store → Prop} (q : Q (setv ρ x v) σ) (hk : env.kindOf x = some .cell := by rfl) (hf : env.func.isSome = true := by rfl) : AS G A env (.Name x pos) v ρ σ Q := fun keep s y E st r => by
  obtain ⟨p, o, w⟩ := st.loc.own hf
  obtain ⟨a, ha⟩ := p x hk
  obtain ⟨⟨c, hc⟩, hn⟩ := o x a ha
  refine wpAny_assign_Name (wpAny_storeName_cell st.loc.kind hk ha hc fun h' hc' sb => ?_)
  obtain ⟨oc, eo, ed⟩ := hc
  have σa : σ a = none := by
    cases z : σ a with
    | none => rfl
    | some w => obtain ⟨ob, ho, nc, _⟩ := (st.hs.rep a w z).there; rw [eo] at ho; cases ho; exact absurd ed (nc _)
  have b := But.one sb
  obtain ⟨hs', he⟩ := st.hs.priv b fun a' q => by
    have q' : a' = a := q
    subst q'
    exact ⟨hn, σa, fun o' e' => by rw [eo] at e'; cases e'; exact frz_cell ed⟩
  obtain ⟨m, n, k⟩ := st.loc.ns
  have hL : env.locals ≠ a := fun z => by
    obtain ⟨oL, _, _, eL, dL, _⟩ := n
    rw [z, eo] at eL; cases eL; rw [ed] at dL; cases dL
  have hcl : ∀ z a' c', z ≠ x → env.cells.lookup z = some a' → s.heap.IsCell a' c' → h'.IsCell a' c' := fun z a' c' hzx e1 ⟨o', e', d'⟩ => ⟨o', b a' o' (fun q => hzx (name_of_addr w (mem_of_lookup e1) (by have q' : a' = a := q; rw [q']; exact mem_of_lookup ha))) e', d'⟩
  refine ⟨he, setv ρ x v, σ, ⟨⟨st.gens, st.os, hs'⟩, st.loc.kind, st.loc.glob, st.loc.bi, st.loc.nk, ⟨m, n.sameBut sb hL, fun z u hz e => ?_⟩, fun z u hz e => ?_, fun f => ⟨p, fun z a' e => ⟨?_, (o z a' e).2⟩, w⟩⟩, q⟩
  · unfold setv at e
    by_cases hzx : z = x
    · subst hzx; rw [hk] at hz; cases hz
    · rw [if_neg hzx] at e
      obtain ⟨y', e1, r'⟩ := k z u hz e
      exact ⟨y', e1, r'.ext he⟩
  · unfold setv at e
    by_cases hzx : z = x
    · subst hzx
      rw [if_pos rfl] at e; cases e
      exact ⟨a, y, ha, hc', r.ext he⟩
    · rw [if_neg hzx] at e
      obtain ⟨a', y', e1, c', r'⟩ := st.loc.cl z u hz e
      exact ⟨a', y', e1, hcl z a' _ hzx e1 c', r'.ext he⟩
  · by_cases hzx : z = x
    · subst hzx; rw [ha] at e; cases e; exact ⟨_, hc'⟩
    · obtain ⟨⟨c', h''⟩, _⟩ := o z a' e
      exact ⟨c', hcl z a' _ hzx e h''⟩
theorem ES.asg {t value : Expr} {pos : Pos} {Q : F → Rho → Store → Prop} (h : EV G A env value ρ σ (asgK G A env t ρ (Q .next)))
    (hx : exec (.Assign [t] value pos) env = (do standAt pos; let v ← eval value env; assign t env v; pure .next) := by rfl) : ES G A env (.Assign [t] value pos) ρ σ Q := fun keep s E st => by
  rw [hx]
  exact wpAny_bind (wpAny_standAt (wpAny_bind (wpAny_mono (h keep s E st) (fun x s₁ ⟨e₁, v, σ₁, st₁, r₁, h₁⟩ => wpAny_bind (wpAny_mono (h₁ keep s₁ x E st₁ r₁) (fun _ s₂ ⟨e₂, ρ₂, σ₂, st₂, q⟩ => wpAny_pure ⟨e₁.trans e₂, .next, ρ₂, σ₂, .next, st₂, q⟩) fun _ _ x => x)) fun _ _ x => x)))
end
noncomputable def bindV : List (Str × V) → Rho → Rho
  | [], ρ => ρ
  | (n, v) :: r, ρ => bindV r (setv ρ n v)
noncomputable abbrev fdK (k : Nat) (pm cd doc : Value) : FuncData := Calls.docDef (nameOf k) (paramsOf k) (bodyOf k) (scopeOf k) pm cd doc
noncomputable abbrev envK (G : Gl) (k : Nat) (L : Addr) (pm cd doc : Value) : Env := callEnvC (fdK k pm cd doc) L (G.fn k)
noncomputable def retOf : F → V
  | .ret v => v
  | _ => .none

section
variable {G : Gl} {A : Around} {env : Env} {ρ : Rho} {σ : Store} {Q : V → Store → Prop} {keep : Keep} {s : Shared} {E : Value → Shared → Prop} {h : Heap}

theorem bindV_bindL {kd : Str → Option NameKind} {ps : List Str} {vs : List V} {xs : List Value} (r : RL G h vs xs) : ∀ {ρ : Rho} {m c : Str → Option Value},
    (∀ x v, kd x = some .local → ρ x = some v → ∃ y, m x = some y ∧ R G h v y) → (∀ x v, kd x = some .cell → ρ x = some v → ∃ y, c x = some y ∧ R G h v y) →
    (∀ x v, kd x = some .local → bindV (ps.zip vs) ρ x = some v → ∃ y, bindL kd (ps.zip xs) m x = some y ∧ R G h v y) ∧
    (∀ x v, kd x = some .cell → bindV (ps.zip vs) ρ x = some v → ∃ y, bindC kd (ps.zip xs) c x = some y ∧ R G h v y) := by
  induction ps generalizing vs xs with
  | nil => intro ρ m c h1 h2; exact ⟨h1, h2⟩
  | cons p ps ih =>
    intro ρ m c h1 h2
    cases r with
    | nil => exact ⟨h1, h2⟩
    | @cons v₀ x₀ vs xs r0 r =>
      refine ih r (ρ := setv ρ p v₀) ?_ ?_
      · intro x v hx e
        unfold setv at e
        by_cases hxp : x = p
        · subst hxp
          rw [if_pos rfl] at e; cases e
          rw [if_pos hx]
          exact ⟨x₀, if_pos rfl, r0⟩
        · rw [if_neg hxp] at e
          obtain ⟨y, e1, r1⟩ := h1 x v hx e
          by_cases hp : kd p = some .local
          · rw [if_pos hp]; exact ⟨y, by rw [if_neg hxp]; exact e1, r1⟩
          · rw [if_neg hp]; exact ⟨y, e1, r1⟩
      · intro x v hx e
        unfold setv at e
        by_cases hxp : x = p
        · subst hxp
          rw [if_pos rfl] at e; cases e
          have hn : ¬ kd x = some .local := by rw [hx]; decide
          rw [if_neg hn]
          exact ⟨x₀, if_pos rfl, r0⟩
        · rw [if_neg hxp] at e
          obtain ⟨y, e1, r1⟩ := h2 x v hx e
          by_cases hp : kd p = some .local
          · rw [if_pos hp]; exact ⟨y, e1, r1⟩
          · rw [if_neg hp]; exact ⟨y, by rw [if_neg hxp]; exact e1, r1⟩
theorem cellsFrom_has {x : Str} (names : List (Str × NameKind)) : ∀ (n : Nat) (acc : List (Str × Addr)), names.lookup x = some .cell ∨ (acc.lookup x).isSome = true → ((cellsFrom n names acc).lookup x).isSome = true := by
  induction names with
  | nil => exact fun _ _ h => h.elim (fun e => by cases e) id
  | cons p r ih =>
    obtain ⟨y, k⟩ := p
    intro n acc h
    unfold cellsFrom
    rw [List.lookup_cons] at h
    by_cases hk : (k == .cell) = true
    · rw [if_pos hk]
      refine ih (n + 1) ((y, n) :: acc) ?_
      rw [List.lookup_cons]
      cases hy : x == y with
      | true => exact .inr rfl
      | false => rw [hy] at h; exact h
    · rw [if_neg hk]
      refine ih n acc ?_
      cases hy : x == y with
      | true => rw [hy] at h; exact h.elim (fun e => absurd (by cases e; rfl) hk) .inr
      | false => rw [hy] at h; exact h
theorem kinds_ {names : List (Str × NameKind)} {n : Nat} {x : Str} (q : (names.lookup x == some .local || names.lookup x == some .cell) = true) : names.lookup x = some .local ∨ (names.lookup x = some .cell ∧ ((cellsFrom n names []).lookup x).isSome = true) := by
  rcases Bool.or_eq_true_iff.mp q with q | q
  · exact .inl (beq_iff_eq.mp q)
  · exact .inr ⟨beq_iff_eq.mp q, cellsFrom_has _ _ _ (.inl (beq_iff_eq.mp q))⟩
theorem zip_mem {ps : List Str} {xs : List Value} {y : Str × Value} (h : y ∈ ps.zip xs) : y.1 ∈ ps := (List.of_mem_zip h).1

/-- a call of a function object -/
noncomputable def FC (G : Gl) (A : Around) (f : Value) (vs : List V) (σ : Store) (Q : V → Store → Prop) : Prop := ∀ keep s xs, Sg G keep σ s → RL G s.heap vs xs → codeAny (MM G) A (.call f ⟨xs, []⟩) (fun r s' => match r with | .ok (.ret v) => pv G (Sg G keep) s.heap Q v s' | _ => False) s
theorem FN.ofC {f : Value} {vs : List V} (h : FC G A f vs σ Q) : FN G A f vs σ Q := fun keep s xs E sg r => wpAny_call (codeAny_mono (h keep s xs sg r) fun r s' z => by
  rcases r with e | (v | _ | _ | _) <;> first | exact z | exact z.elim)
noncomputable abbrev bodK (Q : V → Store → Prop) : F → Rho → Store → Prop := fun fl _ σ => Q (retOf fl) σ
theorem FC.fdB {f : Addr} {fd : FuncData} {n : Nat} {vs : List V} {ps : List Str} {body : List Stmt} {K : List V → Store → Prop} (hf : FnAt G.H f fd) (hr : Room A (n + 1))
    (hbody : fd.body = .stmts body) (hclo : fd.closure = []) (hglob : fd.globals = mainGlobals) (hbi : fd.builtins = builtinsNs)
    (hb : ∀ keep s xs E, Sg G keep σ s → RL G s.heap vs xs → wpAny (MM G) A.in1 (bindArgs fd ⟨xs, []⟩) (fun binds s₁ => ∃ ys vs' σ', binds = ps.zip ys ∧ Ext G s.heap s₁.heap ∧ Sg G keep σ' s₁ ∧ RL G s₁.heap vs' ys ∧ K vs' σ') E s)
    (hps : (ps.all fun y => fd.scope.names.lookup y == some .local || fd.scope.names.lookup y == some .cell) = true)
    (hco : fd.scope.isCoroutine = false) (hgen : fd.scope.isGenerator = false) (hk : fd.scope.kind = .function)
    (h : ∀ L vs' σ', K vs' σ' → EX G (A.deeper (callEnvC fd L f)) (callEnvC fd L f) body (bindV (ps.zip vs') fun _ => none) σ' (bodK Q)) :
    FC G A (.ref f) vs σ Q := fun keep s₀ xs sg₀ r₀ => by
  obtain ⟨⟨o, ho, hd⟩, hc⟩ := hf
  refine codeAny_call_function (by have := hr.depth; show A.depth < 1000; (first | lia | omega)) (sg₀.hs.H _ _ ho) hd hco hgen hbody (hc.keeps sg₀.hs.H) (wpAny_mono (hb keep s₀ xs _ sg₀ r₀) (fun binds s hbs => ?_) fun _ _ x => x)
  obtain ⟨ys, vs', σ₁, rfl, e₀, sg, r, hK⟩ := hbs
  rw [hclo]
  refine wpAny_newFunctionEnv_cells hk (fun y hy => kinds_ (List.all_eq_true.mp hps _ (zip_mem hy))) fun env he s₁ c => ?_
  subst he
  change InCallC s (callEnvC fd s.heap.objs.size f).locals (bindL (callEnvC fd s.heap.objs.size f).kindOf _ _) (callEnvC fd s.heap.objs.size f).cells (bindC (callEnvC fd s.heap.objs.size f).kindOf _ _) s₁ at c
  refine ⟨(G.lim.keeps sg.hs.H).keeps c.toInCall.keep, codeAny_func (env := callEnvC fd s.heap.objs.size f) ?_⟩
  have hkeep := c.toInCall.keep
  obtain ⟨h₁, tk, rfl⟩ := c.toInCall.same
  have b : But (fun _ => False) s.heap h₁ := .of hkeep
  have hs₁ := sg.hs.keeps b
  have hnew : ∀ a, s.heap.objs.size ≤ a → ∀ o, ¬ keep a o := fun a ha o z => absurd (Heap.lt_size (sg.hs.kept _ _ z)) (Nat.not_lt.mpr ha)
  obtain ⟨hl, hcl⟩ := bindV_bindL (kd := (callEnvC fd s.heap.objs.size f).kindOf) (ps := ps) (r.ext (.of hkeep)) (ρ := fun _ => none) (m := fun _ => none) (c := fun _ => none) (fun _ _ _ e => nomatch e) (fun _ _ _ e => nomatch e)
  have hcell : ∀ x, (callEnvC fd s.heap.objs.size f).kindOf x = some .cell → ∃ a, (callEnvC fd s.heap.objs.size f).cells.lookup x = some a := fun x hx =>
    Option.isSome_iff_exists.mp (cellsFrom_has _ _ _ (.inl hx))
  have st : St G keep (callEnvC fd s.heap.objs.size f) (bindV (ps.zip vs') fun _ => none) σ₁ { s with heap := h₁, toks := tk } := by
    refine ⟨⟨sg.gens, sg.os, hs₁⟩, hk, hglob, hbi, ⟨hnew _ (Nat.le_refl _), sg.hs.fresh (Heap.size_none _)⟩, ⟨_, c.toInCall.ns, hl⟩, fun x v hx e => ?_, fun _ => ⟨hcell, fun x a e => ?_, c.apart⟩⟩
    · obtain ⟨a, ha⟩ := hcell x hx
      obtain ⟨y, e1, r1⟩ := hcl x v hx e
      exact ⟨a, y, ha, e1 ▸ c.cell x a ha, r1⟩
    · exact ⟨⟨_, c.cell x a e⟩, hnew a (Nat.le_of_lt (c.above x a (mem_of_lookup e)))⟩
  refine wpAny_mono (h _ vs' σ₁ hK keep _ (fun _ _ => False) st) (fun fl s' ⟨e', f', ρ', σ', fr, st', q⟩ => ?_) fun _ _ x => x.elim
  have e₂ : Ext G s₀.heap s'.heap := e₀.trans ((Ext.of hkeep).trans e')
  cases fr with
  | next => exact ⟨e₂, .none, σ', st'.toSg, .none, q⟩
  | brk => exact ⟨e₂, .none, σ', st'.toSg, .none, q⟩
  | cont => exact ⟨e₂, .none, σ', st'.toSg, .none, q⟩
  | ret r' => exact ⟨e₂, _, σ', st'.toSg, r', q⟩
/-- a call of the text's function number k -/
theorem FN.fn {k n : Nat} {vs : List V} {ps : List Str} (hr : Room A (n + 1)) (h : ∀ L pm cd doc A', Room A' n → EX G A' (envK G k L pm cd doc) (bodyOf k) (bindV (ps.zip vs) fun _ => none) σ (bodK Q))
    (hlen : vs.length = ps.length := by rfl) (hb : ∀ pm cd doc (xs : List Value), xs.length = ps.length → bindArgs (fdK k pm cd doc) ⟨xs, []⟩ = pure (ps.zip xs))
    (hn : (nameOf k ≠ Str.empty ∧ (ps.all fun y => (scopeOf k).names.lookup y == some .local || (scopeOf k).names.lookup y == some .cell) = true) ∧
      ((cellsFrom 0 (scopeOf k).names []).map (·.1)).Nodup ∧ (scopeOf k).isCoroutine = false ∧ (scopeOf k).isGenerator = false ∧ (scopeOf k).kind = .function := by decide +kernel) :
    FN G A (.ref (G.fn k)) vs σ Q := by
  obtain ⟨_, pm, cd, doc, hf⟩ := G.fnOk k hn.1.1
  exact FN.ofC (FC.fdB (K := fun vs' σ' => vs' = vs ∧ σ' = σ) hf hr rfl rfl rfl rfl (fun keep s xs E sg r => by
    rw [hb pm cd doc xs (r.length.symm.trans hlen)]
    exact wpAny_pure ⟨xs, vs, σ, rfl, .refl _, sg, r, rfl, rfl⟩) hn.1.2 hn.2.2.1 hn.2.2.2.1 hn.2.2.2.2 fun L vs' σ' e => by obtain ⟨rfl, rfl⟩ := e; exact h L pm cd doc _ hr.deeper)
theorem len_list1 {xs : List Value} (h : xs.length = 1) : ∃ a, xs = [a] := List.length_eq_one_iff.mp h
theorem len_list2 {xs : List Value} (h : xs.length = 2) : ∃ a b, xs = [a, b] := by
  cases xs with
  | nil => cases h
  | cons y ys => obtain ⟨b, rfl⟩ := len_list1 (Nat.succ.inj h); exact ⟨y, b, rfl⟩
theorem len_list3 {xs : List Value} (h : xs.length = 3) : ∃ a b c, xs = [a, b, c] := by
  cases xs with
  | nil => cases h
  | cons y ys => obtain ⟨b, c, rfl⟩ := len_list2 (Nat.succ.inj h); exact ⟨y, b, c, rfl⟩
theorem len_list4 {xs : List Value} (h : xs.length = 4) : ∃ a b c d, xs = [a, b, c, d] := by
  cases xs with
  | nil => cases h
  | cons y ys => obtain ⟨b, c, d, rfl⟩ := len_list3 (Nat.succ.inj h); exact ⟨y, b, c, d, rfl⟩
theorem len_list5 {xs : List Value} (h : xs.length = 5) : ∃ a b c d e, xs = [a, b, c, d, e] := by
  cases xs with
  | nil => cases h
  | cons y ys => obtain ⟨b, c, d, e, rfl⟩ := len_list4 (Nat.succ.inj h); exact ⟨y, b, c, d, e, rfl⟩
theorem len_list6 {xs : List Value} (h : xs.length = 6) : ∃ a b c d e f, xs = [a, b, c, d, e, f] := by
  cases xs with
  | nil => cases h
  | cons y ys => obtain ⟨b, c, d, e, f, rfl⟩ := len_list5 (Nat.succ.inj h); exact ⟨y, b, c, d, e, f, rfl⟩
theorem FN.fn1 {k n : Nat} {v1 : V} (p1 : Str) (hr : Room A (n + 1)) (h : ∀ L pm cd doc A', Room A' n → EX G A' (envK G k L pm cd doc) (bodyOf k) (bindV [(p1, v1)] fun _ => none) σ (bodK Q))
    (hb : ∀ pm cd doc a, bindArgs (fdK k pm cd doc) ⟨[a], []⟩ = pure [(p1, a)] := by intros; rfl) (hn : (nameOf k ≠ Str.empty ∧ ([p1].all fun y => (scopeOf k).names.lookup y == some .local || (scopeOf k).names.lookup y == some .cell) = true) ∧
      ((cellsFrom 0 (scopeOf k).names []).map (·.1)).Nodup ∧ (scopeOf k).isCoroutine = false ∧ (scopeOf k).isGenerator = false ∧ (scopeOf k).kind = .function := by decide +kernel) : FN G A (.ref (G.fn k)) [v1] σ Q :=
  FN.fn (ps := [p1]) hr h rfl (fun pm cd doc xs h => by
    obtain ⟨a, rfl⟩ : ∃ a, xs = [a] := by
      exact len_list1 h
    exact hb pm cd doc a) hn
theorem FN.fn2 {k n : Nat} {v1 v2 : V} (p1 p2 : Str) (hr : Room A (n + 1)) (h : ∀ L pm cd doc A', Room A' n → EX G A' (envK G k L pm cd doc) (bodyOf k) (bindV [(p1, v1), (p2, v2)] fun _ => none) σ (bodK Q))
    (hb : ∀ pm cd doc a b, bindArgs (fdK k pm cd doc) ⟨[a, b], []⟩ = pure [(p1, a), (p2, b)] := by intros; rfl) (hn : (nameOf k ≠ Str.empty ∧ ([p1, p2].all fun y => (scopeOf k).names.lookup y == some .local || (scopeOf k).names.lookup y == some .cell) = true) ∧
      ((cellsFrom 0 (scopeOf k).names []).map (·.1)).Nodup ∧ (scopeOf k).isCoroutine = false ∧ (scopeOf k).isGenerator = false ∧ (scopeOf k).kind = .function := by decide +kernel) : FN G A (.ref (G.fn k)) [v1, v2] σ Q :=
  FN.fn (ps := [p1, p2]) hr h rfl (fun pm cd doc xs h => by
    obtain ⟨a, b, rfl⟩ : ∃ a b, xs = [a, b] := by
      exact len_list2 h
    exact hb pm cd doc a b) hn
theorem FN.fn3 {k n : Nat} {v1 v2 v3 : V} (p1 p2 p3 : Str) (hr : Room A (n + 1)) (h : ∀ L pm cd doc A', Room A' n → EX G A' (envK G k L pm cd doc) (bodyOf k) (bindV [(p1, v1), (p2, v2), (p3, v3)] fun _ => none) σ (bodK Q))
    (hb : ∀ pm cd doc a b c, bindArgs (fdK k pm cd doc) ⟨[a, b, c], []⟩ = pure [(p1, a), (p2, b), (p3, c)] := by intros; rfl) (hn : (nameOf k ≠ Str.empty ∧ ([p1, p2, p3].all fun y => (scopeOf k).names.lookup y == some .local || (scopeOf k).names.lookup y == some .cell) = true) ∧
      ((cellsFrom 0 (scopeOf k).names []).map (·.1)).Nodup ∧ (scopeOf k).isCoroutine = false ∧ (scopeOf k).isGenerator = false ∧ (scopeOf k).kind = .function := by decide +kernel) : FN G A (.ref (G.fn k)) [v1, v2, v3] σ Q :=
  FN.fn (ps := [p1, p2, p3]) hr h rfl (fun pm cd doc xs h => by
    obtain ⟨a, b, c, rfl⟩ : ∃ a b c, xs = [a, b, c] := by
      exact len_list3 h
    exact hb pm cd doc a b c) hn
theorem FN.fn5 {k n : Nat} {v1 v2 v3 v4 v5 : V} (p1 p2 p3 p4 p5 : Str) (hr : Room A (n + 1)) (h : ∀ L pm cd doc A', Room A' n → EX G A' (envK G k L pm cd doc) (bodyOf k) (bindV [(p1, v1), (p2, v2), (p3, v3), (p4, v4), (p5, v5)] fun _ => none) σ (bodK Q))
    (hb : ∀ pm cd doc a b c d e, bindArgs (fdK k pm cd doc) ⟨[a, b, c, d, e], []⟩ = pure [(p1, a), (p2, b), (p3, c), (p4, d), (p5, e)] := by intros; rfl) (hn : (nameOf k ≠ Str.empty ∧ ([p1, p2, p3, p4, p5].all fun y => (scopeOf k).names.lookup y == some .local || (scopeOf k).names.lookup y == some .cell) = true) ∧
      ((cellsFrom 0 (scopeOf k).names []).map (·.1)).Nodup ∧ (scopeOf k).isCoroutine = false ∧ (scopeOf k).isGenerator = false ∧ (scopeOf k).kind = .function := by decide +kernel) : FN G A (.ref (G.fn k)) [v1, v2, v3, v4, v5] σ Q :=
  FN.fn (ps := [p1, p2, p3, p4, p5]) hr h rfl (fun pm cd doc xs h => by
    obtain ⟨a, b, c, d, e, rfl⟩ : ∃ a b c d e, xs = [a, b, c, d, e] := by
      exact len_list5 h
    exact hb pm cd doc a b c d e) hn
theorem FN.fn6 {k n : Nat} {v1 v2 v3 v4 v5 v6 : V} (p1 p2 p3 p4 p5 p6 : Str) (hr : Room A (n + 1)) (h : ∀ L pm cd doc A', Room A' n → EX G A' (envK G k L pm cd doc) (bodyOf k) (bindV [(p1, v1), (p2, v2), (p3, v3), (p4, v4), (p5, v5), (p6, v6)] fun _ => none) σ (bodK Q))
    (hb : ∀ pm cd doc a b c d e f, bindArgs (fdK k pm cd doc) ⟨[a, b, c, d, e, f], []⟩ = pure [(p1, a), (p2, b), (p3, c), (p4, d), (p5, e), (p6, f)] := by intros; rfl) (hn : (nameOf k ≠ Str.empty ∧ ([p1, p2, p3, p4, p5, p6].all fun y => (scopeOf k).names.lookup y == some .local || (scopeOf k).names.lookup y == some .cell) = true) ∧
      ((cellsFrom 0 (scopeOf k).names []).map (·.1)).Nodup ∧ (scopeOf k).isCoroutine = false ∧ (scopeOf k).isGenerator = false ∧ (scopeOf k).kind = .function := by decide +kernel) : FN G A (.ref (G.fn k)) [v1, v2, v3, v4, v5, v6] σ Q :=
  FN.fn (ps := [p1, p2, p3, p4, p5, p6]) hr h rfl (fun pm cd doc xs h => by
    obtain ⟨a, b, c, d, e, f, rfl⟩ : ∃ a b c d e f, xs = [a, b, c, d, e, f] := by
      exact len_list6 h
    exact hb pm cd doc a b c d e f) hn
theorem EV.call {x : Str} {p pos : Pos} {e : Expr} {es : List Expr} (k : Nat) (h : EL G A env pos (e :: es) ρ σ (fnK G A (.ref (G.fn k)) Q)) (hx : nameOf k = x := by rfl) (hne : nameOf k ≠ Str.empty := by decide +kernel) (hk : env.kindOf x = some .globalImplicit := by rfl)
    (hd : (x == ("__debug__" : Str)) = false := by decide) (he : starEach (e :: es) env = (false, eval e env) :: starEach es env := by rfl) : EV G A env (.Call (.Name x p) (e :: es) [] pos) ρ σ Q := fun keep s E st => by
  obtain ⟨hm, pm, cd, doc, ⟨o, ho, hdat⟩, _⟩ := G.fnOk k hne
  refine PyProof.Rows.Call_ (Calls.Name_function_global st.loc.kind hk (Calls.loadGlobal_global (by rw [st.loc.glob]; exact G.ga.keeps st.hs.H) (hx ▸ hm) ?_) hd)
  refine PyProof.Rows.callWith_def hdat (wpAny_mono (h keep s E st) (fun xs s₁ ⟨e₁, vs, σ₁, st₁, r₁, h₁⟩ => ⟨st₁.hs.H _ _ ho, ?_⟩) fun _ _ x => x) he
  exact wpAny_mono (lift st₁ (h₁ _ s₁ xs E st₁.sg r₁)) (fun _ _ p => p.up e₁) fun _ _ x => x
end
section
variable {G : Gl} {A : Around} {env : Env} {ρ : Rho} {σ : Store} {keep keep' : Keep} {s : Shared} {E : Value → Shared → Prop} {h h' : Heap}

noncomputable abbrev whQ (I : Nat → Rho → Store → Prop) (n : Nat) (Q : F → Rho → Store → Prop) : F → Rho → Store → Prop := fun f ρ σ => match f with
  | .next => ∃ m, m < n ∧ I m ρ σ | .cont => ∃ m, m < n ∧ I m ρ σ | .brk => Q .next ρ σ | .ret v => Q (.ret v) ρ σ
noncomputable abbrev whK (G : Gl) (A : Around) (env : Env) (body : List Stmt) (I : Nat → Rho → Store → Prop) (n : Nat) (ρ : Rho) (Q : F → Rho → Store → Prop) : Bool → Store → Prop := fun b σ => if b = true then EX G A env body ρ σ (whQ I n Q) else Q .next ρ σ
theorem ES.while {test : Expr} {body : List Stmt} {pos : Pos} {Q : F → Rho → Store → Prop} (I : Nat → Rho → Store → Prop) (n : Nat) (h0 : I n ρ σ)
    (turn : ∀ n ρ σ, I n ρ σ → TR G A env test ρ σ (whK G A env body I n ρ Q)) :
    ES G A env (.While test body [] pos) ρ σ Q := fun keep s E st => by
  refine wpAny_While (codeAny_whileLoop (fun n s' => Ext G s.heap s'.heap ∧ ∃ ρ σ, St G keep env ρ σ s' ∧ I n ρ σ) ?_ n ⟨.refl _, ρ, σ, st, h0⟩)
  rintro n s₁ ⟨e₁, ρ₁, σ₁, st₁, hI⟩
  refine wpAny_mono (turn n ρ₁ σ₁ hI keep s₁ _ st₁) (fun b s₂ ⟨e₂, σ₂, st₂, h₂⟩ => ?_) fun _ _ x => x
  cases b with
  | false => exact wpAny_execs_nil ⟨e₁.trans e₂, .next, _, σ₂, .next, st₂, h₂⟩
  | true =>
    refine wpAny_mono (h₂ keep s₂ _ st₂) (fun fl s₃ ⟨e₃, f, ρ₃, σ₃, fr, st₃, h₃⟩ => ?_) fun _ _ x => x
    have ee := (e₁.trans e₂).trans e₃
    cases fr with
    | next => obtain ⟨m, hm, hI'⟩ := h₃; exact ⟨m, hm, ee, ρ₃, σ₃, st₃, hI'⟩
    | cont => obtain ⟨m, hm, hI'⟩ := h₃; exact ⟨m, hm, ee, ρ₃, σ₃, st₃, hI'⟩
    | brk => exact ⟨ee, .next, ρ₃, σ₃, .next, st₃, h₃⟩
    | ret r => exact ⟨ee, _, ρ₃, σ₃, .ret r, st₃, h₃⟩

/-- an iterator over items, read under a condition of the store -/
structure Iter (G : Gl) (A : Around) (tg : Expr) (I : Addr) (W : List Addr) (items : List V) (C : Store → Prop) (P : Nat → Heap → Prop) : Prop where
  live : ∀ i h, P i h → ∀ b ∈ W, ∃ o vs, h.get? b = some o ∧ o.data = .fields vs ∧ frz o = false
  frame : ∀ i h h', P i h → Ext G h h' → (∀ b ∈ W, ∀ o, h.get? b = some o → h'.get? b = some o) → P i h'
  item : ∀ i v keep σ (s : Shared) (Q : Value → Shared → Prop) E, items[i]? = some v → Sg G keep σ s → C σ → P i s.heap →
    (∀ x h' tk, But (· ∈ W) s.heap h' → (Ext G s.heap h' → R G h' v x) → (Ext G s.heap h' → P (i + 1) h') → Q x { s with heap := h', toks := tk }) →
    wpAny (MM G) A (pyNext (.ref I)) (fun r s₁ => ∃ x, r = some x ∧ wpAny (MM G) A (letOwnedTupleGo tg (.ref I) x) (fun _ s₂ => Q x s₂) E s₁) E s
  done : ∀ keep σ (s : Shared) (Q : Option Value → Shared → Prop) E, Sg G keep σ s → C σ → P items.length s.heap → (∀ h' tk, But (· ∈ W) s.heap h' → Q none { s with heap := h', toks := tk }) → wpAny (MM G) A (pyNext (.ref I)) Q E s
  self : ∀ i (s : Shared) (Q : Value → Shared → Prop) E, P i s.heap → Q (.ref I) s → wpAny (MM G) A (pyIter (.ref I)) Q E s

noncomputable def plus (keep : Keep) (h : Heap) (W : List Addr) : Keep := fun a o => keep a o ∨ (a ∈ W ∧ h.get? a = some o)
theorem St.weak (st : St G keep' env ρ σ s) (hb : ∀ a o, G.H.get? a = some o → keep a o) (k : ∀ a o, keep a o → keep' a o) : St G keep env ρ σ s :=
  ⟨⟨st.gens, st.os, hb, fun a o e => st.hs.kept a o (k a o e), fun a o e o' q => st.hs.sep a o e o' (k _ _ q), st.hs.rep⟩,
    st.loc.kind, st.loc.glob, st.loc.bi, ⟨fun o q => st.loc.nk.1 o (k _ _ q), st.loc.nk.2⟩, st.loc.ns, st.loc.cl, fun f => let ⟨p, q, w⟩ := st.loc.own f; ⟨p, fun x a e => let ⟨c, n⟩ := q x a e; ⟨c, fun o z => n o (k _ _ z)⟩, w⟩⟩
/-- an iterator is none of the state's objects -/
theorem St.apart (st : St G keep env ρ σ s) {I : Addr} {o : Obj} {vs : Array Value} (e : s.heap.get? I = some o) (d : o.data = .fields vs) : σ I = none ∧ env.locals ≠ I ∧ ∀ a c, s.heap.IsCell a c → a ≠ I := by
  refine ⟨?_, fun z => ?_, fun a c ⟨o', e', d'⟩ z => ?_⟩
  · cases q : σ I with
    | none => rfl
    | some w => obtain ⟨ob, ho, _, _, nf⟩ := (st.hs.rep I w q).there; rw [e] at ho; cases ho; exact absurd d (nf _)
  · obtain ⟨m, ⟨oL, _, _, eL, dL, _⟩, _⟩ := st.loc.ns
    rw [z, e] at eL; cases eL; rw [d] at dL; cases dL
  · rw [z, e] at e'; cases e'; rw [d] at d'; cases d'
theorem St.plus (st : St G keep env ρ σ s) {W : List Addr} (hW : ∀ b ∈ W, ∃ o vs, s.heap.get? b = some o ∧ o.data = .fields vs ∧ frz o = false) : St G (plus keep s.heap W) env ρ σ s := by
  have ap : ∀ b ∈ W, σ b = none ∧ env.locals ≠ b ∧ ∀ a c, s.heap.IsCell a c → a ≠ b := fun b hb => let ⟨o, vs, e, d, _⟩ := hW b hb; st.apart e d
  exact ⟨⟨st.gens, st.os, fun a o q => .inl (st.hs.base a o q), fun a o q => q.elim (st.hs.kept a o) (·.2), fun a o q o' z => z.elim (st.hs.sep a o q o') fun z => (by rw [(ap a z.1).1] at q; cases q), st.hs.rep⟩,
    st.loc.kind, st.loc.glob, st.loc.bi, ⟨fun o z => z.elim (st.loc.nk.1 o) fun z => (ap _ z.1).2.1 rfl, st.loc.nk.2⟩, st.loc.ns, st.loc.cl, fun f => let ⟨p, q, w⟩ := st.loc.own f; ⟨p, fun x a e => let ⟨⟨c, hc⟩, n⟩ := q x a e; ⟨⟨c, hc⟩, fun o z => z.elim (n o) fun z => (ap a z.1).2.2 a c hc rfl⟩, w⟩⟩
/-- the iterator moves -/
theorem St.moved (st : St G keep env ρ σ s) {W : List Addr} {h' : Heap} {tk : Nat} (hW : ∀ b ∈ W, ∃ o vs, s.heap.get? b = some o ∧ o.data = .fields vs ∧ frz o = false) (hb : ∀ b ∈ W, ∀ o, ¬ keep b o) (b : But (· ∈ W) s.heap h') :
    St G keep env ρ σ { s with heap := h', toks := tk } ∧ Ext G s.heap h' := by
  have ap : ∀ b ∈ W, σ b = none ∧ env.locals ≠ b ∧ ∀ a c, s.heap.IsCell a c → a ≠ b := fun b hb => let ⟨o, vs, e, d, _⟩ := hW b hb; st.apart e d
  obtain ⟨hs', he⟩ := st.hs.priv b fun a q => ⟨hb a q, (ap a q).1, fun o' e' => by obtain ⟨o, vs, e, _, f⟩ := hW a q; rw [e] at e'; cases e'; exact f⟩
  exact ⟨⟨⟨st.gens, st.os, hs'⟩, st.loc.chg he (fun o q => b _ o (fun z => (ap _ z).2.1 rfl) q) (fun a o c hd q => b a o (fun z => (ap a z).2.2 a c ⟨o, q, hd⟩ rfl) q) st.loc.nk.2⟩, he⟩

noncomputable def IT (G : Gl) (A : Around) (env : Env) (tg iter : Expr) (ρ : Rho) (σ : Store) (K : List V → (Store → Prop) → Store → Prop) : Prop := ∀ keep s E, St G keep env ρ σ s →
  wpAny (MM G) A (eval iter env) (fun xv s₁ => wpAny (MM G) A (pyIter xv) (fun it s₂ => Ext G s.heap s₂.heap ∧ ∃ I W items C P σ', it = .ref I ∧ Iter G A tg I W items C P ∧ P 0 s₂.heap ∧ (∀ b ∈ W, ∀ o, ¬ keep b o) ∧ St G keep env ρ σ' s₂ ∧ C σ' ∧ K items C σ') E s₁) E s

noncomputable abbrev forQ (C : Store → Prop) (J : Rho → Store → Prop) (Q : F → Rho → Store → Prop) : F → Rho → Store → Prop := fun f ρ σ => match f with
  | .next => C σ ∧ J ρ σ | .cont => C σ ∧ J ρ σ | .brk => Q .next ρ σ | .ret v => Q (.ret v) ρ σ
noncomputable abbrev forK (G : Gl) (A : Around) (env : Env) (body : List Stmt) (C : Store → Prop) (J : Rho → Store → Prop) (Q : F → Rho → Store → Prop) : Rho → Store → Prop := fun ρ σ => EX G A env body ρ σ (forQ C J Q)
theorem ES.for {tg iter : Expr} {body orelse : List Stmt} {pos : Pos} {Q : F → Rho → Store → Prop}
    (h : IT G A env tg iter ρ σ fun items C σ' => ∃ J : Nat → Rho → Store → Prop, J 0 ρ σ' ∧ (∀ i v ρ₁ σ₁, items[i]? = some v → C σ₁ → J i ρ₁ σ₁ → AS G A env tg v ρ₁ σ₁ (forK G A env body C (J (i + 1)) Q)) ∧ ∀ ρ₁ σ₁, C σ₁ → J items.length ρ₁ σ₁ → EX G A env orelse ρ₁ σ₁ Q)
    (hs : ∀ x, foldedSetIterable iter env x = pure x := by intro _; rfl) : ES G A env (.For tg iter body orelse pos) ρ σ Q := fun keep s E st => by
  refine wpAny_For (wpAny_mono (h keep s E st) (fun xv s₁ h₁ => wpAny_mono h₁ (fun it s₂ h₂ => ?_) fun _ _ x => x) fun _ _ x => x) hs
  obtain ⟨e₂, I, W, items, C, P, σ', rfl, T, hP, hI, st₂, hC, J, hJ, turn, fin⟩ := h₂
  refine codeAny_forLoop_any (fun n s' => ∃ i ρ σ, n + i = items.length + 1 ∧ i ≤ items.length ∧ Ext G s.heap s'.heap ∧ St G keep env ρ σ s' ∧ C σ ∧ P i s'.heap ∧ J i ρ σ) ?_ (items.length + 1) ⟨0, ρ, σ', rfl, Nat.zero_le _, e₂, st₂, hC, hP, hJ⟩
  rintro n s₁ ⟨i, ρ₁, σ₁, hn, hi, e₁, st₁, hC₁, hP₁, hJ₁⟩
  have lv := T.live _ _ hP₁
  by_cases hlt : i < items.length
  · obtain ⟨v, hv⟩ : ∃ v, items[i]? = some v := ⟨_, List.getElem?_eq_getElem hlt⟩
    refine wpAny_mono (T.item i v _ σ₁ s₁ ?Qx _ hv st₁.sg hC₁ hP₁ ?hq) (fun r s₂ hr => ?hm) fun _ _ x => x
    case hm => obtain ⟨x, rfl, h₂⟩ := hr; exact h₂
    intro x h' tk b r hP₂
    obtain ⟨st₂, e₃⟩ := st₁.moved (tk := tk) lv hI b
    replace hP₂ := hP₂ e₃
    have st₃ := st₂.plus (T.live _ _ hP₂)
    refine wpAny_mono (turn i v ρ₁ σ₁ hv hC₁ hJ₁ _ _ x _ st₃ (r e₃)) (fun _ s₄ ⟨e₄, ρ₄, σ₄, st₄, h₄⟩ => wpAny_mono (h₄ _ s₄ _ st₄) (fun fl s₅ ⟨e₅, f, ρ₅, σ₅, fr, st₅, h₅⟩ => ?_) fun _ _ x => x) fun _ _ x => x
    have ee := ((e₁.trans e₃).trans e₄).trans e₅
    have st₆ : St G keep env ρ₅ σ₅ s₅ := st₅.weak st.hs.base fun a o q => .inl q
    have hP₅ : P (i + 1) s₅.heap := T.frame _ _ _ hP₂ (e₄.trans e₅) fun b hb o q => st₅.hs.kept _ _ (.inr ⟨hb, q⟩)
    cases fr with
    | next => exact ⟨n - 1, by (first | lia | omega), i + 1, ρ₅, σ₅, by (first | lia | omega), by (first | lia | omega), ee, st₆, h₅.1, hP₅, h₅.2⟩
    | cont => exact ⟨n - 1, by (first | lia | omega), i + 1, ρ₅, σ₅, by (first | lia | omega), by (first | lia | omega), ee, st₆, h₅.1, hP₅, h₅.2⟩
    | brk => exact ⟨ee, .next, ρ₅, σ₅, .next, st₆, h₅⟩
    | ret r => exact ⟨ee, _, ρ₅, σ₅, .ret r, st₆, h₅⟩
  · have hie : i = items.length := by (first | lia | omega)
    subst hie
    refine T.done _ σ₁ s₁ _ _ st₁.sg hC₁ hP₁ fun h' tk b => ?_
    obtain ⟨st₂, e₃⟩ := st₁.moved (tk := tk) lv hI b
    exact wpAny_mono (fin ρ₁ σ₁ hC₁ hJ₁ keep _ _ st₂) (fun fl s₃ ⟨e₄, r⟩ => ⟨(e₁.trans e₃).trans e₄, r⟩) fun _ _ x => x
end
section
variable {G : Gl} {A : Around} {env : Env} {ρ : Rho} {σ : Store} {keep keep' : Keep} {s : Shared} {E : Value → Shared → Prop} {h h' : Heap}

noncomputable def IFS (G : Gl) (A : Around) (env : Env) (ifs : List Expr) (ρ : Rho) (σ : Store) (Q : Bool → Store → Prop) : Prop := ∀ keep s E, St G keep env ρ σ s →
  wpAny (MM G) A (forIn ifs true fun c r => if r = true then do let ok ← isTrue c env (eval c env); pure (ForInStep.yield ok) else pure (ForInStep.yield r)) (pb_ G (St G keep env ρ) s.heap Q) E s
theorem IFS.nil {Q : Bool → Store → Prop} (q : Q true σ) : IFS G A env [] ρ σ Q := fun keep s E st => wpAny_tests_nil ⟨.refl _, σ, st, q⟩
theorem IFS.one {c : Expr} {Q : Bool → Store → Prop} (q : TR G A env c ρ σ Q) : IFS G A env [c] ρ σ Q := fun keep s E st => wpAny_tests_one (q keep s E st)

theorem codeAny_compLoop_own {prog : Program} {w : World} {R : Result → Shared → Prop} {elt target iter : Expr} {ifs : List Expr} {scope : Scope} {pos : Pos} {it acc : Value} {env : Env} (I : Nat → Shared → Prop)
    (turn : ∀ n s (E : Value → Shared → Prop), I n s → wpAny (model prog w) A (pyNext it) (fun r s₁ => match r with
      | none => R (.ok .next) s₁
      | some v => wpAny (model prog w) A (letOwnedTupleGo target it v) (fun _ s₁' => wpAny (model prog w) A (assign target env v) (fun _ s₂ =>
          wpAny (model prog w) A (forIn ifs true fun c r => if r = true then do let ok ← isTrue c env (eval c env); pure (ForInStep.yield ok) else pure (ForInStep.yield r)) (fun ok s₃ =>
            if ok = true then wpAny (model prog w) A (eval elt env) (fun x s₄ => wpAny (model prog w) A (call (.builtin "list.append") [acc, x]) (fun _ s₅ => ∃ m, m < n ∧ I m s₅) E s₄) E s₃
            else ∃ m, m < n ∧ I m s₃) E s₂) E s₁') E s₁) E s)
    (n : Nat) (h : I n s) : codeAny (model prog w) A (.compLoop (.ListComp elt [⟨target, iter, ifs, 0⟩] scope pos) 0 it acc env) R s := by
  refine codeAny_loop rfl I (fun n s hI => ?_) n h
  show wpAny _ A ((compTurn (.ListComp elt [⟨target, iter, ifs, 0⟩] scope pos) 0 it acc env).onRaise (fun x => do noteFrame x env; theTreesLotGoes x)) _ _ s
  refine wpAny_noted ?_
  rw [compTurn_list]
  refine wpAny_bind (wpAny_standAt (wpAny_bind (wpAny_mono (turn n s _ hI) (fun r s₁ h₁ => ?_) fun _ _ h' => h')))
  cases r with
  | none => exact wpAny_pure h₁
  | some v =>
    refine wpAny_bind (wpAny_mono h₁ (fun _ s₁' h₁' => wpAny_bind (wpAny_mono h₁' (fun _ s₂ h₂ => wpAny_bind (wpAny_mono h₂ (fun ok s₃ h₃ => ?_) fun _ _ h' => h')) fun _ _ h' => h')) fun _ _ h' => h')
    cases ok with
    | false => exact wpAny_pure ⟨rfl, h₃⟩
    | true => exact wpAny_bind (wpAny_bind (wpAny_mono h₃ (fun x s₄ h₄ => wpAny_bind (wpAny_mono h₄ (fun _ s₅ h₅ => wpAny_pure (wpAny_pure ⟨rfl, h₅⟩)) fun _ _ h' => h')) fun _ _ h' => h'))

/-- the names that a comprehension sees -/
noncomputable def sees (fr : List Str) (ρ : Rho) : Rho := fun x => if x ∈ fr then ρ x else none
noncomputable def Clos (env : Env) (cl : List (Str × Addr)) : List Str → Prop
  | [] => True
  | x :: r => (env.kindOf x = some .cell ∧ cl.lookup x = env.cells.lookup x) ∧ Clos env cl r
theorem Clos.get {cl : List (Str × Addr)} {fr : List Str} (c : Clos env cl fr) {x : Str} (hx : x ∈ fr) : env.kindOf x = some .cell ∧ cl.lookup x = env.cells.lookup x := by
  induction fr with
  | nil => cases hx
  | cons y r ih => cases hx with
    | head => exact c.1
    | tail _ h => exact ih c.2 h

/-- the turns of a comprehension -/
noncomputable def Turns (G : Gl) (A : Around) (cenv : Addr → Env) (tg elt : Expr) (ifs : List Expr) (ρi : Rho) (items : List V) (C : Store → Prop) (J : Nat → List V → Store → Prop) : Prop :=
  ∀ L i v acc σ₁, items[i]? = some v → C σ₁ → J i acc σ₁ → AS G A (cenv L) tg v ρi σ₁ fun ρ₂ σ₂ => IFS G A (cenv L) ifs ρ₂ σ₂ fun b σ₃ =>
    if b = true then EV G A (cenv L) elt ρ₂ σ₃ fun w σ₄ => C σ₄ ∧ J (i + 1) (acc ++ [w]) σ₄ else C σ₃ ∧ J (i + 1) acc σ₃

structure CompInv (G : Gl) (ki : Keep) (h₀ : Heap) (D L : Addr) (C : Store → Prop) (J : Nat → List V → Store → Prop) (P : Nat → Heap → Prop) (i : Nat) (s : Shared) : Prop where
  ex : ∃ acc ys m σ, Sg G ki σ s ∧ C σ ∧ J i acc σ ∧ P i s.heap ∧ Ext G h₀ s.heap ∧ s.heap.PlainList D ys ∧ RL G s.heap acc ys.toList ∧ acc.length ≤ i ∧ s.heap.Ns L m ∧ (∀ o, ¬ ki D o) ∧ σ D = none ∧ (∀ o, ¬ ki L o) ∧ σ L = none ∧ D ≠ L

theorem comp_turn {ki : Keep} {h₀ : Heap} {I D L : Addr} {W : List Addr} {tg elt : Expr} {ifs : List Expr} {cenv : Addr → Env} {ρi : Rho} {items : List V} {C : Store → Prop} {J : Nat → List V → Store → Prop} {P : Nat → Heap → Prop} (T : Iter G A tg I W items C P) (hz : items.length ≤ 1000)
    (hL : (cenv L).locals = L ∧ (cenv L).scope.kind = .function ∧ (cenv L).globals = mainGlobals ∧ (cenv L).builtins = builtinsNs ∧ (cenv L).func = none) (hI : ∀ b ∈ W, ∀ o, ¬ ki b o)
    (hcl : ∀ x v, ρi x = some v → (cenv L).kindOf x = some .cell ∧ ∃ a y o, (cenv L).cells.lookup x = some a ∧ ki a o ∧ o.data = .cell (some y) ∧ R G h₀ v y)
    (turns : Turns G A cenv tg elt ifs ρi items C J) {i : Nat} {s : Shared} {Rf : Shared → Prop} (inv : CompInv G ki h₀ D L C J P i s) (hi : i ≤ items.length)
    (fin : ∀ s', CompInv G ki h₀ D L C J (fun _ _ => True) items.length s' → Rf s') :
    wpAny (MM G) A (pyNext (.ref I)) (fun r s₁ => match r with
      | none => Rf s₁
      | some v => wpAny (MM G) A (letOwnedTupleGo tg (.ref I) v) (fun _ s₁' => wpAny (MM G) A (assign tg (cenv L) v) (fun _ s₂ =>
          wpAny (MM G) A (forIn ifs true fun c r => if r = true then do let ok ← isTrue c (cenv L) (eval c (cenv L)); pure (ForInStep.yield ok) else pure (ForInStep.yield r)) (fun ok s₃ =>
            if ok = true then wpAny (MM G) A (eval elt (cenv L)) (fun x s₄ => wpAny (MM G) A (call (.builtin "list.append") [.ref D, x]) (fun _ s₅ => i < items.length ∧ CompInv G ki h₀ D L C J P (i + 1) s₅) E s₄) E s₃
            else i < items.length ∧ CompInv G ki h₀ D L C J P (i + 1) s₃) E s₂) E s₁') E s₁) E s := by
  obtain ⟨acc, ys, m, σ, sg, hC, hJ, hP, he, hD, rD, hacc, hn, kD, sD, kL, sL, hDL⟩ := inv.ex
  have lv := T.live _ _ hP
  obtain ⟨nD, eD⟩ := hD
  obtain ⟨oL, es, ep, eL, dL, hLr⟩ := hn
  have hDI : D ∉ W := fun z => by obtain ⟨o, vs, eo, ed, _⟩ := lv D z; rw [eo] at eD; cases eD; cases ed
  have hLI : L ∉ W := fun z => by obtain ⟨o, vs, eo, ed, _⟩ := lv L z; rw [eo] at eL; cases eL; rw [ed] at dL; cases dL
  have hσI : ∀ b ∈ W, σ b = none := fun b hb => by
    obtain ⟨o, vs, eo, ed, _⟩ := lv b hb
    cases q : σ b with
    | none => rfl
    | some w => obtain ⟨ob, ho, _, _, nf⟩ := (sg.hs.rep b w q).there; rw [eo] at ho; cases ho; exact absurd ed (nf _)
  have move : ∀ h', But (· ∈ W) s.heap h' → HS G ki σ h' ∧ Ext G s.heap h' := fun h' b => sg.hs.priv b fun a q =>
    ⟨hI a q, hσI a q, fun o' e' => by obtain ⟨o, vs, eo, _, ef⟩ := lv a q; rw [eo] at e'; cases e'; exact ef⟩
  by_cases hlt : i < items.length
  · obtain ⟨v, hv⟩ : ∃ v, items[i]? = some v := ⟨_, List.getElem?_eq_getElem hlt⟩
    refine wpAny_mono (T.item i v _ σ s ?Qx _ hv sg hC hP ?hq) (fun r s₂ hr => ?hm) fun _ _ x => x
    case hm => obtain ⟨x, rfl, h₂⟩ := hr; exact h₂
    intro x h' tk b r hP₂
    obtain ⟨hs', he'⟩ := move h' b
    replace hP₂ := hP₂ he'
    have eD' : h'.get? D = some _ := b D _ hDI eD
    have eL' : h'.get? L = some oL := b L _ hLI eL
    have hlow : ∀ a o, h'.get? a = some o → σ a ≠ none → a ∉ W ∧ a ≠ D ∧ a ≠ L := fun a o e q => ⟨fun z => q (hσI a z), fun z => q (z ▸ sD), fun z => q (z ▸ sL)⟩
    -- the turn's frame
    have st : St G (fun a o => ki a o ∨ ((a ∈ W ∨ a = D) ∧ h'.get? a = some o)) (cenv L) ρi σ { s with heap := h', toks := tk } := by
      refine ⟨⟨sg.gens, sg.os, fun a o q => .inl (hs'.base a o q), fun a o q => q.elim (hs'.kept a o) (·.2), fun a o q o₁ z => z.elim (hs'.sep a o q o₁) fun z => ?_, hs'.rep⟩,
        hL.2.1, hL.2.2.1, hL.2.2.2.1, ?_, ⟨m, by rw [hL.1]; exact ⟨oL, es, ep, eL', dL, hLr⟩, fun x v hk e => by rw [(hcl x v e).1] at hk; cases hk⟩, fun x v hk e => ?_, fun f => by rw [hL.2.2.2.2] at f; cases f⟩
      · have := hlow a o₁ z.2 (by rw [q]; simp)
        exact z.1.elim this.1 this.2.1
      · rw [hL.1]
        exact ⟨fun o z => z.elim (kL o) fun z => z.1.elim hLI (fun q => hDL q.symm), sL⟩
      · obtain ⟨_, a, y, o, e1, k1, d1, r1⟩ := hcl x v e
        exact ⟨a, y, e1, ⟨o, hs'.kept _ _ k1, d1⟩, r1.ext (he.trans he')⟩
    refine wpAny_mono (turns L i v acc σ hv hC hJ _ _ x _ st (r he')) (fun _ s₄ h₄ => ?_) fun _ _ x => x
    obtain ⟨e₄, ρ₄, σ₄, st₄, h₄⟩ := h₄
    refine wpAny_mono (h₄ _ s₄ _ st₄) (fun ok s₅ h₅ => ?_) fun _ _ x => x
    obtain ⟨e₅, σ₅, st₅, h₅⟩ := h₅
    -- what a turn leaves
    have left : ∀ {s₆ : Shared} {σ₆ : Store}, St G (fun a o => ki a o ∨ ((a ∈ W ∨ a = D) ∧ h'.get? a = some o)) (cenv L) ρ₄ σ₆ s₆ → Ext G h' s₆.heap → Sg G ki σ₆ s₆ ∧ P (i + 1) s₆.heap ∧ Ext G h₀ s₆.heap ∧ s₆.heap.PlainList D ys ∧ RL G s₆.heap acc ys.toList ∧ (∃ m, s₆.heap.Ns L m) ∧ σ₆ D = none ∧ σ₆ L = none := by
      intro s₆ σ₆ st₆ e₆
      refine ⟨⟨st₆.gens, st₆.os, hs'.base, fun a o q => st₆.hs.kept a o (.inl q), fun a o q o₁ z => st₆.hs.sep a o q o₁ (.inl z), st₆.hs.rep⟩, T.frame _ _ _ hP₂ e₆ fun b hb o q => st₆.hs.kept _ _ (.inr ⟨.inl hb, q⟩), (he.trans he').trans e₆,
        ⟨nD, st₆.hs.kept _ _ (.inr ⟨.inr rfl, eD'⟩)⟩, rD.ext (he'.trans e₆), ?_, ?_, ?_⟩
      · obtain ⟨m', n', _⟩ := st₆.loc.ns; rw [hL.1] at n'; exact ⟨m', n'⟩
      · cases q : σ₆ D with
        | none => rfl
        | some w => exact absurd (.inr ⟨.inr rfl, eD'⟩) (st₆.hs.sep D w q _)
      · have := st₆.loc.nk.2; rw [hL.1] at this; exact this
    cases ok with
    | false =>
      obtain ⟨a1, a2, a3, a4, a5, ⟨m', a6⟩, a7, a8⟩ := left st₅ (e₄.trans e₅)
      exact ⟨hlt, ⟨acc, ys, m', σ₅, a1, h₅.1, h₅.2, a2, a3, a4, a5, Nat.le_succ_of_le hacc, a6, kD, a7, kL, a8, hDL⟩⟩
    | true =>
      refine wpAny_mono (h₅ _ s₅ _ st₅) (fun y s₆ h₆ => ?_) fun _ _ x => x
      obtain ⟨e₆, w, σ₆, st₆, rw₆, hC₆, hJ₆⟩ := h₆
      obtain ⟨a1, a2, a3, a4, a5, ⟨m', a6⟩, a7, a8⟩ := left st₆ ((e₄.trans e₅).trans e₆)
      refine wpAny_list_append_plain a4 (fun h₇ p₇ sb => ?_) (by rw [← Array.length_toList, ← a5.length]; exact Nat.le_trans hacc (Nat.le_trans (Nat.le_of_lt hlt) (Nat.le_trans hz (by decide))))
      have b₇ := But.one sb
      obtain ⟨nD', eD₇⟩ := a4
      obtain ⟨hs₇, e₇⟩ := a1.hs.priv b₇ fun a q => by
        have q' : a = D := q
        subst q'
        exact ⟨kD, a7, fun o' e' => by rw [eD₇] at e'; cases e'; rfl⟩
      refine ⟨hlt, ⟨acc ++ [w], ys.push y, m', σ₆, ⟨a1.gens, a1.os, hs₇⟩, hC₆, hJ₆, T.frame _ _ _ a2 e₇ fun b hb o q => b₇ _ _ (fun z => hDI (by have z' : b = D := z; exact z' ▸ hb)) q, a3.trans e₇, p₇, ?_, by rw [List.length_append]; exact Nat.succ_le_succ hacc, a6.sameBut sb (Ne.symm hDL), kD, a7, kL, a8, hDL⟩⟩
      rw [Array.toList_push]
      exact (a5.ext e₇).snoc (rw₆.ext e₇)
  · have hie : i = items.length := by (first | lia | omega)
    subst hie
    refine T.done _ σ s _ _ sg hC hP fun h' tk b => fin _ ⟨acc, ys, m, σ, ?_⟩
    obtain ⟨hs', he'⟩ := move h' b
    exact ⟨⟨sg.gens, sg.os, hs'⟩, hC, hJ, trivial, he.trans he', ⟨nD, b D _ hDI eD⟩, rD.ext he', hacc, ⟨oL, es, ep, b L _ hLI eL, dL, hLr⟩, kD, sD, kL, sL, hDL⟩
end
section
variable {G : Gl} {A : Around} {env : Env} {ρ : Rho} {σ : Store} {keep keep' : Keep} {s : Shared} {E : Value → Shared → Prop} {h h' : Heap}

/-- a private dict beside the frame -/
theorem St.beside (st : St G keep env ρ σ s) {C : Addr} {m} (hn : s.heap.Ns C m) (hσ : σ C = none) (hL : env.locals ≠ C) : St G (fun a o => keep a o ∨ (a = C ∧ s.heap.get? a = some o)) env ρ σ s := by
  obtain ⟨oC, _, _, eC, dC, _⟩ := hn
  refine ⟨⟨st.gens, st.os, fun a o q => .inl (st.hs.base a o q), fun a o q => q.elim (st.hs.kept a o) (·.2), fun a o q o' z => z.elim (st.hs.sep a o q o') fun z => (by rw [z.1, hσ] at q; cases q), st.hs.rep⟩,
    st.loc.kind, st.loc.glob, st.loc.bi, ⟨fun o z => z.elim (st.loc.nk.1 o) fun z => hL z.1, st.loc.nk.2⟩, st.loc.ns, st.loc.cl, fun f => let ⟨p, q, w⟩ := st.loc.own f; ⟨p, fun x a e => let ⟨⟨c, hc⟩, n⟩ := q x a e; ⟨⟨c, hc⟩, fun o z => z.elim (n o) fun z => ?_⟩, w⟩⟩
  obtain ⟨o', e', d'⟩ := hc
  rw [z.1, eC] at e'; cases e'; rw [dC] at d'; cases d'
/-- the private dict is let go -/
theorem St.letgo (st : St G keep env ρ σ s) {C : Addr} {m} {h' : Heap} (hn : s.heap.Ns C m) (hσ : σ C = none) (hL : env.locals ≠ C) (hk : ∀ o, ¬ keep C o) (sb : Heap.SameBut C s.heap h') : St G keep env ρ σ { s with heap := h' } ∧ Ext G s.heap h' := by
  obtain ⟨oC, _, _, eC, dC, _⟩ := hn
  have b := But.one sb
  obtain ⟨hs', he⟩ := st.hs.priv b fun a q => by
    have q' : a = C := q
    subst q'
    exact ⟨hk, hσ, fun o' e' => by rw [eC] at e'; cases e'; exact frz_dict dC⟩
  exact ⟨⟨⟨st.gens, st.os, hs'⟩, st.loc.chg he (fun o q => b _ o hL q) (fun a o c hd q => b a o (fun z => by have z' : a = C := z; rw [z', eC] at q; cases q; rw [dC] at hd; cases hd) q) st.loc.nk.2⟩, he⟩

/-- a comprehension -/
theorem comp {elt tg iter : Expr} {ifs : List Expr} {scope : Scope} {pos pos' : Pos} {cl : List (Str × Addr)} {fr : List Str} {use : Option (Value → Sem Unit)} {Qc : Value → Shared → Prop} (st : St G keep env ρ σ s)
    (hclos : closureFor scope env = pure cl) (hfr : Clos env cl fr) (hk : scope.kind = .function) (hnames : ∀ x ∈ scope.names, x.2 = .local → scope.names.lookup x.1 = some .local) (hcell : ∀ y ∈ scope.names, y.2 ≠ .cell)
    (hsee : ∀ x ∈ fr, ∀ L, (compEnvC scope cl L env).kindOf x = some .cell)
    (hs : ∀ x, foldedSetIterable iter env x = pure x)
    (U : V → Store → Prop)
    (h : IT G A env tg iter ρ σ fun items C σ' => ∃ J : Nat → List V → Store → Prop, items.length ≤ 1000 ∧ J 0 [] σ' ∧ Turns G A (fun L => compEnvC scope cl L env) tg elt ifs (sees fr ρ) items C J ∧ ∀ acc σ₁, acc.length ≤ items.length → C σ₁ → J items.length acc σ₁ → ∀ a, σ₁ a = none → U (.ref a) (upd σ₁ a (.list acc)))
    (fin : ∀ D C m σ' s', Ext G s.heap s'.heap → U (.ref D) σ' → St G keep env ρ σ' s' → s'.heap.Ns C m → σ' C = none → env.locals ≠ C → (∀ o, ¬ keep C o) → compPost (MM G) A E use Qc (.ref D) C (.ok .next) s') :
    wpAny (MM G) A (comprehension (.ListComp elt [⟨tg, iter, ifs, 0⟩] scope pos) scope env pos' (newList []) false (eval iter env) use) Qc E s := by
  refine wpAny_comprehension_free (use := use) rfl hs hclos hk hnames (wpAny_mono (h keep s E st) (fun xv s₁ h₁ => wpAny_mono h₁ (fun it s₂ h₂ => ?_) fun _ _ x => x) fun _ _ x => x)
  obtain ⟨e₂, I, W, items, C, P, σ₂, rfl, T, hP, hI, st₂, hC, J, hz, hJ, turns, hfin⟩ := h₂
  refine wpAny_newObj_type (wpAny_newFunctionEnv hcell (by intro y hy; simp at hy) (fun h₁ hns₁ hsb₁ => ?_) hk)
  dsimp only at hns₁ hsb₁ ⊢
  generalize hH2 : s₂.heap.push { cls := .type "list", dict := none, data := .seq ([] : List Value).toArray } = H2 at hns₁ hsb₁ ⊢
  have hL : H2.objs.size = s₂.heap.objs.size + 1 := by rw [← hH2, Heap.size_push]
  have hDL : s₂.heap.objs.size ≠ H2.objs.size := by rw [hL]; exact Nat.ne_of_lt (Nat.lt_succ_self _)
  have up : ∀ b o, s₂.heap.get? b = some o → h₁.get? b = some o := fun b o e => hsb₁.extBut b o (Nat.ne_of_lt (by rw [hL]; exact Nat.lt_succ_of_lt (Heap.lt_size e))) (Heap.get?_push_of_some _ (hH2 ▸ Heap.get?_push_of_some _ e))
  have pD : h₁.PlainList s₂.heap.objs.size #[] := ⟨_, hsb₁.extBut _ _ hDL (Heap.get?_push_of_some _ (hH2 ▸ Heap.get?_push_size _ rfl))⟩
  have lv := T.live _ _ hP
  have new : ∀ a, s₂.heap.objs.size ≤ a → s₂.heap.get? a = none := fun a ha => by
    cases q : s₂.heap.get? a with
    | none => rfl
    | some o' => exact absurd (Heap.lt_size q) (Nat.not_lt.mpr ha)
  have hCle : s₂.heap.objs.size ≤ H2.objs.size := by rw [hL]; exact Nat.le_succ _
  let ki : Keep := fun a o => s₂.heap.get? a = some o ∧ σ₂ a = none ∧ a ∉ W
  have sg₁ : HS G ki σ₂ h₁ := by
    have y := st₂.hs.keeps (.of up)
    refine ⟨fun a o q => ⟨st₂.hs.H a o q, ?_, fun z => hI a z o (st₂.hs.base a o q)⟩, fun a o q => up a o q.1, fun a o q o' z => (by have z2 : σ₂ a = none := z.2.1; rw [q] at z2; cases z2), y.rep⟩
    cases z : σ₂ a with
    | none => rfl
    | some w => exact absurd (st₂.hs.base a o q) (st₂.hs.sep a w z o)
  have inv : ∀ s₃ : Shared, s₃ = { s₂ with heap := h₁, toks := s₂.toks + ([] : List (Str × Value)).length } → CompInv G ki s₂.heap s₂.heap.objs.size H2.objs.size C J P 0 s₃ := by
    rintro s₃ rfl
    exact ⟨[], #[], _, σ₂, ⟨st₂.gens, st₂.os, sg₁⟩, hC, hJ, T.frame _ _ _ hP (.of up) fun b _ o q => up _ _ q, .of up, pD, .nil, Nat.le_refl _, hns₁, (fun o z => by have z1 := z.1; rw [new _ (Nat.le_refl _)] at z1; cases z1), st₂.hs.fresh (new _ (Nat.le_refl _)),
      (fun o z => by have z1 := z.1; rw [new _ hCle] at z1; cases z1), st₂.hs.fresh (new _ hCle), hDL⟩
  have loop : ∀ s₃ : Shared, s₃ = { s₂ with heap := h₁, toks := s₂.toks + ([] : List (Str × Value)).length } → codeAny (MM G) A (.compLoop (.ListComp elt [⟨tg, iter, ifs, 0⟩] scope pos) 0 (.ref I) (.ref s₂.heap.objs.size) (compEnvC scope cl H2.objs.size env))
      (compPost (MM G) A E use Qc (.ref s₂.heap.objs.size) H2.objs.size) s₃ := by
    intro s₃ hs₃
    refine codeAny_compLoop_own (fun n s' => ∃ i, n + i = items.length + 1 ∧ i ≤ items.length ∧ CompInv G ki s₂.heap s₂.heap.objs.size H2.objs.size C J P i s') (fun n s' E' hn => ?_) (items.length + 1) ⟨0, rfl, Nat.zero_le _, inv s₃ hs₃⟩
    obtain ⟨i, hni, hi, hinv⟩ := hn
    refine wpAny_mono (comp_turn (cenv := fun L => compEnvC scope cl L env) (E := E') (Rf := fun s₅ => compPost (MM G) A E use Qc (.ref s₂.heap.objs.size) H2.objs.size (.ok .next) s₅) T hz ⟨rfl, hk, st.loc.glob, st.loc.bi, rfl⟩ (fun b hb o z => z.2.2 hb) ?_ turns hinv hi ?_) (fun r s₄ h₄ => ?_) fun _ _ x => x
    · intro x v e
      unfold sees at e
      by_cases hx : x ∈ fr
      · rw [if_pos hx] at e
        obtain ⟨k1, k2⟩ := hfr.get hx
        obtain ⟨a, y, e1, ⟨o', e2, d2⟩, r⟩ := st₂.loc.cl x v k1 e
        refine ⟨hsee x hx _, a, y, o', k2.trans e1, ⟨e2, ?_, fun z => by obtain ⟨o₃, vs₃, e₃, d₃, _⟩ := lv a z; rw [e2] at e₃; cases e₃; rw [d2] at d₃; cases d₃⟩, d2, r⟩
        cases q : σ₂ a with
        | none => rfl
        | some w => obtain ⟨ob, ho, nc, _⟩ := (st₂.hs.rep a w q).there; rw [e2] at ho; cases ho; exact absurd d2 (nc _)
      · rw [if_neg hx] at e; cases e
    · intro s₅ inv₅
      obtain ⟨acc, ys, m, σ₅, sg₅, hC₅, hJ₅, _, e₅, hD₅, rD, hacc, hn₅, kD, sD, kL, sL, _⟩ := inv₅.ex
      have hs₆ := sg₅.hs.adopt kD (.list hD₅ rD)
      have st₆ : St G keep env ρ (upd σ₅ s₂.heap.objs.size (.list acc)) s₅ := st₂.back2 (kx := ki) ⟨sg₅.gens, sg₅.os, hs₆⟩ e₅ fun a o q1 q2 q3 => ⟨q1, q2, fun z => q3.elim (fun k => hI a z o k) fun k => by obtain ⟨o₃, vs₃, e₃, d₃, _⟩ := lv a z; rw [q1] at e₃; cases e₃; exact k _ d₃⟩
      have hlt : env.locals < s₂.heap.objs.size := by obtain ⟨_, n2, _⟩ := st₂.loc.ns; exact n2.lt
      exact fin _ _ m _ s₅ (e₂.trans e₅) (hfin acc σ₅ hacc hC₅ hJ₅ _ sD) st₆ hn₅ (by rw [upd_ne _ _ (Ne.symm hDL)]; exact sL) (fun z => Nat.lt_irrefl _ (Nat.lt_of_lt_of_le (z ▸ hlt) hCle)) (fun o z => by have := st₂.hs.kept _ _ z; rw [new _ hCle] at this; cases this)
    · cases r with
      | none => exact h₄
      | some v =>
        refine wpAny_mono h₄ (fun _ s₅ h₅ => wpAny_mono h₅ (fun _ s₆ h₆ => wpAny_mono h₆ (fun ok s₇ h₇ => ?_) fun _ _ x => x) fun _ _ x => x) fun _ _ x => x
        cases ok with
        | false => exact ⟨n - 1, by (first | lia | omega), i + 1, by (first | lia | omega), h₇.1, h₇.2⟩
        | true => exact wpAny_mono h₇ (fun _ s₈ h₈ => wpAny_mono h₈ (fun _ s₉ h₉ => ⟨n - 1, by (first | lia | omega), i + 1, by (first | lia | omega), h₉.1, h₉.2⟩) fun _ _ x => x) fun _ _ x => x
  exact codeAny_compStart_list (loop _ rfl) (T.self 0 _ _ _ (T.frame _ _ _ hP (.of up) fun b _ o q => up _ _ q) (loop _ rfl))

theorem EV.lc {elt tg iter : Expr} {ifs : List Expr} {scope : Scope} {pos : Pos} {cl : List (Str × Addr)} (fr : List Str) {Q : V → Store → Prop}
    (h : IT G A env tg iter ρ σ fun items C σ' => ∃ J : Nat → List V → Store → Prop, items.length ≤ 1000 ∧ J 0 [] σ' ∧ Turns G A (fun L => compEnvC scope cl L env) tg elt ifs (sees fr ρ) items C J ∧ ∀ acc σ₁, acc.length ≤ items.length → C σ₁ → J items.length acc σ₁ → ∀ a, σ₁ a = none → Q (.ref a) (upd σ₁ a (.list acc)))
    (hclos : closureFor scope env = pure cl := by rfl) (hfr : Clos env cl fr) (hsee : ∀ x ∈ fr, ∀ L, (compEnvC scope cl L env).kindOf x = some .cell)
    (hk : scope.kind = .function ∧ (∀ x ∈ scope.names, x.2 = .local → scope.names.lookup x.1 = some .local) ∧ (∀ y ∈ scope.names, y.2 ≠ .cell) := by decide +kernel)
    (hs : ∀ x, foldedSetIterable iter env x = pure x := by intro _; rfl) : EV G A env (.ListComp elt [⟨tg, iter, ifs, 0⟩] scope pos) ρ σ Q := fun keep s E st => by
  rw [eval_ListComp]
  refine comp (use := none) st hclos hfr hk.1 hk.2.1 hk.2.2 hsee hs Q h fun D C m σ' s' e u st' hn hσ hL hkC => ⟨m, hn, fun h' sb => ?_⟩
  obtain ⟨st₂, e₂⟩ := st'.letgo hn hσ hL hkC sb
  exact ⟨e.trans e₂, _, σ', st₂, .raw _, u⟩
theorem ES.lc {elt tg iter : Expr} {ifs : List Expr} {scope : Scope} {pos pos' : Pos} {cl : List (Str × Addr)} {t : Expr} (fr : List Str) {Q : F → Rho → Store → Prop}
    (h : IT G A env tg iter ρ σ fun items C σ' => ∃ J : Nat → List V → Store → Prop, items.length ≤ 1000 ∧ J 0 [] σ' ∧ Turns G A (fun L => compEnvC scope cl L env) tg elt ifs (sees fr ρ) items C J ∧ ∀ acc σ₁, acc.length ≤ items.length → C σ₁ → J items.length acc σ₁ → ∀ a, σ₁ a = none → AS G A env t (.ref a) ρ (upd σ₁ a (.list acc)) fun ρ' σ'' => Q .next ρ' σ'')
    (hclos : closureFor scope env = pure cl := by rfl) (hfr : Clos env cl fr) (hsee : ∀ x ∈ fr, ∀ L, (compEnvC scope cl L env).kindOf x = some .cell)
    (hk : scope.kind = .function ∧ (∀ x ∈ scope.names, x.2 = .local → scope.names.lookup x.1 = some .local) ∧ (∀ y ∈ scope.names, y.2 ≠ .cell) := by decide +kernel)
    (hs : ∀ x, foldedSetIterable iter env x = pure x := by intro _; rfl)
    (hx : exec (.Assign [t] (.ListComp elt [⟨tg, iter, ifs, 0⟩] scope pos) pos') env = (do standAt pos'; evalThenUse (.ListComp elt [⟨tg, iter, ifs, 0⟩] scope pos) env (assign t env); return .next) := by rfl) :
    ES G A env (.Assign [t] (.ListComp elt [⟨tg, iter, ifs, 0⟩] scope pos) pos') ρ σ Q := fun keep s E st => by
  rw [hx]
  refine wpAny_bind (wpAny_standAt (wpAny_bind ?_))
  show wpAny _ A (do let _ ← comprehension (.ListComp elt [⟨tg, iter, ifs, 0⟩] scope pos) scope env _ (newList []) false (eval iter env) (some (assign t env))) _ _ s
  refine wpAny_bind (comp (use := some (assign t env)) st hclos hfr hk.1 hk.2.1 hk.2.2 hsee hs (fun v σ' => AS G A env t v ρ σ' fun ρ' σ'' => Q .next ρ' σ'') h fun D C m σ' s' e u st' hn hσ hL hkC => ?_)
  have st₂ := st'.beside hn hσ hL
  refine wpAny_mono (u _ s' _ E st₂ (.raw _)) (fun _ s₃ h₃ => ?_) fun _ _ x => x
  obtain ⟨e₃, ρ₃, σ₃, st₃, q⟩ := h₃
  have hn₃ : s₃.heap.Ns C m := hn.at' fun o q => st₃.hs.kept _ _ (.inr ⟨rfl, q⟩)
  have hσ₃ : σ₃ C = none := by
    obtain ⟨oC, _, _, eC, _⟩ := hn
    cases z : σ₃ C with
    | none => rfl
    | some w => exact absurd (.inr ⟨rfl, eC⟩) (st₃.hs.sep C w z oC)
  refine ⟨m, hn₃, fun h' sb => ?_⟩
  obtain ⟨st₄, e₄⟩ := (st₃.weak st.hs.base fun a o z => .inl z).letgo hn₃ hσ₃ hL hkC sb
  exact wpAny_pure (wpAny_pure ⟨(e.trans e₃).trans e₄, .next, ρ₃, σ₃, .next, st₄, q⟩)
end
section
variable {G : Gl} {A : Around} {env : Env} {ρ : Rho} {σ : Store} {keep keep' : Keep} {s : Shared} {E : Value → Shared → Prop} {h h' : Heap} {tg : Expr}

/-- iteration over a value -/
noncomputable def ITV (G : Gl) (A : Around) (tg : Expr) (v : V) (σ : Store) (K : List V → (Store → Prop) → Store → Prop) : Prop := ∀ keep s x E, Sg G keep σ s → R G s.heap v x →
  wpAny (MM G) A (pyIter x) (fun it s₂ => Ext G s.heap s₂.heap ∧ ∃ I W items C P, it = .ref I ∧ Iter G A tg I W items C P ∧ P 0 s₂.heap ∧ (∀ b ∈ W, ∀ o, ¬ keep b o) ∧ Sg G keep σ s₂ ∧ C σ ∧ K items C σ) E s
theorem IT.val {iter : Expr} {K : List V → (Store → Prop) → Store → Prop} (h : EV G A env iter ρ σ fun v σ' => ITV G A tg v σ' K) : IT G A env tg iter ρ σ K := fun keep s E st =>
  wpAny_mono (h keep s E st) (fun x s₁ h₁ => by
    obtain ⟨e₁, v, σ₁, st₁, r₁, h₁⟩ := h₁
    refine wpAny_mono (h₁ _ s₁ x E st₁.sg r₁) (fun it s₂ h₂ => ?_) fun _ _ x => x
    obtain ⟨e₂, I, W, items, C, P, hI, T, hP, hW, sg₂, hC, q⟩ := h₂
    exact ⟨e₁.trans e₂, I, W, items, C, P, σ₁, hI, T, hP, fun b hb o z => hW b hb o ⟨st₁.hs.kept _ _ z, by
      cases q : σ₁ b with
      | none => rfl
      | some w => exact absurd z (st₁.hs.sep b w q o)⟩, st₁.back sg₂ e₂, hC, q⟩) fun _ _ x => x

/-- a new iterator object -/
theorem newIter (sg : Sg G keep σ s) {o : Obj} : Ext G s.heap (s.heap.push o) ∧ (∀ b ∈ [s.heap.objs.size], ∀ o, ¬ keep b o) ∧ Sg G keep σ { s with heap := s.heap.push o } :=
  ⟨.push _ _, fun b hb => by
    rw [List.mem_singleton.mp hb]
    exact sg.hs.free (Heap.size_none _), sg.alloc _⟩
theorem but1 {I : Addr} (x : Heap.ExtBut I h h') : But (· ∈ [I]) h h' := fun b o n e => x b o (fun z => n (by rw [z]; exact List.mem_singleton_self _)) e
theorem mem1 {I b : Addr} (h : b ∈ [I]) : b = I := List.mem_singleton.mp h

theorem own_plain {M : Model} {I : Addr} {o : Obj} {n : String} {x : Value} {Q : Unit → Shared → Prop} (ho : s.heap.get? I = some o) (hc : o.cls = .type n)
    (hn : (["enumerate", "zip", "dict_itemiterator", "dict_reverseitemiterator", "odict_iterator", "itertools.zip_longest", "itertools.pairwise"].contains n) = false) (h : Q () s) : wpAny M A (letOwnedTupleGo tg (.ref I) x) Q E s := by
  obtain ⟨c, d, dt, sl⟩ := o
  cases hc
  have key : wpAny M A (do
      let (.ref r, .ref a) := (Value.ref I, x) | return
      let o ← load r
      match o.cls, o.data with
      | .type n, .fields vs =>
        if ["enumerate", "zip", "dict_itemiterator", "dict_reverseitemiterator", "odict_iterator", "itertools.zip_longest", "itertools.pairwise"].contains n && vs[0]? == some (rawInt a) then
          rule "for.unpacks-the-owned-tuple"
          updateField r 0 .none
      | _, _ => pure () : Sem Unit) Q E s := by
    cases x with
    | ref a =>
      refine wpAny_bind (wpAny_load ho ?_)
      cases dt <;> first | exact wpAny_pure h | (dsimp only; rw [hn]; exact wpAny_pure h)
    | _ => exact wpAny_pure h
  unfold letOwnedTupleGo
  cases tg <;> first | exact wpAny_pure h | exact key

theorem ITV.list {a : Addr} {vs : List V} {K : List V → (Store → Prop) → Store → Prop} (hh : A.handled = none) (hσ : σ a = some (.list vs)) (k : K vs (fun σ => σ a = some (.list vs)) σ) : ITV G A tg (.ref a) σ K := fun keep s x E sg r => by
  cases r
  have hl : ∀ {keep σ} {s : Shared}, Sg G keep σ s → σ a = some (.list vs) → ∃ xs, s.heap.IsList a xs ∧ RL G s.heap vs xs.toList := fun sg e => by
    cases sg.hs.rep a _ e with | list p l => exact ⟨_, p.isList, l⟩
  obtain ⟨xs, hx, _⟩ := hl sg hσ
  refine wpAny_pyIter_list hx ?_
  obtain ⟨e, w, g⟩ := newIter sg (o := { cls := .type "list_iterator", data := .fields #[.ref a, .int 0 0] })
  refine ⟨e, s.heap.objs.size, [s.heap.objs.size], vs, fun σ => σ a = some (.list vs), fun i h => h.IsListIter s.heap.objs.size a i, rfl, ⟨?_, ?_, ?_, ?_, ?_⟩, ⟨_, Heap.get?_push_size _ rfl, rfl, rfl⟩, w, g, hσ, k⟩
  · intro i h ⟨o, ho, hc, hd⟩ b hb
    rw [mem1 hb]
    exact ⟨o, _, ho, hd, frz_cls hc rfl rfl⟩
  · exact fun i h h' p _ hk => p.at fun o q => hk _ (List.mem_singleton_self _) o q
  · intro i v keep σ₁ s₁ Q E hi sg₁ hC hP hQ
    obtain ⟨ys, hy, rl⟩ := hl sg₁ hC
    obtain ⟨y, ey, ry⟩ := rl.get hi
    refine wpAny_pyNext_list_item hP hy (x := y) (by rw [← Array.getElem?_toList]; exact ey) fun h' p' sb => ⟨y, rfl, ?_⟩
    obtain ⟨o', ho', hc', _⟩ := id p'
    exact own_plain ho' hc' (by decide) (hQ y h' s₁.toks (but1 sb.extBut) (fun e => ry.ext e) fun _ => p')
  · intro keep σ₁ s₁ Q E sg₁ hC hP hQ
    obtain ⟨ys, hy, rl⟩ := hl sg₁ hC
    exact wpAny_pyNext_list_end hh hP hy (by rw [← Array.getElem?_toList, List.getElem?_eq_none (by rw [← rl.length]; exact Nat.le_refl _)]) fun h' sb => hQ h' s₁.toks (but1 sb)
  · exact fun i s₁ Q E p q => wpAny_pyIter_listiter p q

theorem ITV.tup {vs : List V} {K : List V → (Store → Prop) → Store → Prop} (hh : A.handled = none) (k : K vs (fun _ => True) σ) : ITV G A tg (.tup vs) σ K := fun keep s x E sg r => by
  cases r with
  | @tup t xs n _ ht rl =>
  have T : ∀ {h : Heap}, h.get? t = some { cls := .type "tuple", data := .seq xs n } → h.IsTuple t xs := fun e => ⟨_, e, rfl, n, rfl⟩
  refine wpAny_pyIter_tuple (T ht) ?_
  obtain ⟨e, w, g⟩ := newIter sg (o := { cls := .type "tuple_iterator", data := .fields #[.ref t, .int 0 0] })
  refine ⟨e, s.heap.objs.size, [s.heap.objs.size], vs, fun _ => True, fun i h => h.IsTupleIter s.heap.objs.size t i ∧ h.get? t = some { cls := .type "tuple", data := .seq xs n } ∧ RL G h vs xs.toList, rfl, ⟨?_, ?_, ?_, ?_, ?_⟩, ⟨⟨_, Heap.get?_push_size _ rfl, rfl, rfl⟩, e _ _ ht (.inl rfl), rl.ext e⟩, w, g, trivial, k⟩
  · intro i h ⟨⟨o, ho, hc, hd⟩, _⟩ b hb
    rw [mem1 hb]
    exact ⟨o, _, ho, hd, frz_cls hc rfl rfl⟩
  · exact fun i h h' p e hk => ⟨p.1.at fun o q => hk _ (List.mem_singleton_self _) o q, e _ _ p.2.1 (.inl rfl), p.2.2.ext e⟩
  · intro i v keep σ₁ s₁ Q E hi sg₁ hC hP hQ
    obtain ⟨y, ey, ry⟩ := hP.2.2.get hi
    refine wpAny_pyNext_tuple_item hP.1 (T hP.2.1) (x := y) (by rw [← Array.getElem?_toList]; exact ey) fun h' p' sb => ⟨y, rfl, ?_⟩
    obtain ⟨o', ho', hc', _⟩ := id p'
    exact own_plain ho' hc' (by decide) (hQ y h' s₁.toks (but1 sb.extBut) (fun e => ry.ext e) fun e => ⟨p', e _ _ hP.2.1 (.inl rfl), hP.2.2.ext e⟩)
  · intro keep σ₁ s₁ Q E sg₁ hC hP hQ
    exact wpAny_pyNext_tuple_end hh hP.1 (T hP.2.1) (by rw [← Array.getElem?_toList, List.getElem?_eq_none (by rw [← hP.2.2.length]; exact Nat.le_refl _)]) fun h' sb => hQ h' s₁.toks (but1 sb)
  · exact fun i s₁ Q E p q => wpAny_pyIter_tupleiter p.1 q

noncomputable def zseq (a b : Int) : List V := (List.range (b - a).toNat).map fun (i : Nat) => .int (a + i)
theorem ITV.rng {a b : Int} {K : List V → (Store → Prop) → Store → Prop} (hh : A.handled = none) (hs : Builtin.Range.small a b 1 = true) (hz : Builtin.Range.rangeSize a b 1 = ((b - a).toNat : Int)) (k : K (zseq a b) (fun _ => True) σ) : ITV G A tg (.rng a b) σ K := fun keep s x E sg r => by
  cases r with
  | rng hr =>
  refine wpAny_pyIter_range hr hs ?_
  rw [hz]
  obtain ⟨e, w, g⟩ := newIter sg (o := { cls := .type "range_iterator", data := .fields #[rawInt a, rawInt ((b - a).toNat : Int), rawInt 1] })
  refine ⟨e, s.heap.objs.size, [s.heap.objs.size], zseq a b, fun _ => True, fun i h => IsRangeIter h s.heap.objs.size (a + i) ((b - a).toNat - i) 1, rfl, ⟨?_, ?_, ?_, ?_, ?_⟩, ?_, w, g, trivial, k⟩
  · intro i h p b hb
    rw [mem1 hb]
    exact ⟨_, _, p, rfl, rfl⟩
  · exact fun i h h' p e hk => hk _ (List.mem_singleton_self _) _ p
  · intro i v keep σ₁ s₁ Q E hi sg₁ hC hP hQ
    have hi' : i < (b - a).toNat ∧ v = .int (a + i) := by
      unfold zseq at hi
      rw [List.getElem?_map] at hi
      by_cases hl : i < (b - a).toNat
      · rw [List.getElem?_range hl] at hi; cases hi; exact ⟨hl, rfl⟩
      · rw [List.getElem?_eq_none (by rw [List.length_range]; (first | lia | omega))] at hi; cases hi
    obtain ⟨hl, rfl⟩ := hi'
    refine wpAny_pyNext_range_item hP (by (first | lia | omega)) fun h' p' sb => ⟨_, rfl, ?_⟩
    refine own_plain p' rfl (by decide) (hQ _ h' (s₁.toks + 1) (but1 sb.extBut) (fun e => .int _ _) fun e => ?_)
    have e1 : a + ((i + 1 : Nat) : Int) = a + i + 1 := by (first | lia | omega)
    have e2 : ((b - a).toNat : Int) - ((i + 1 : Nat) : Int) = (b - a).toNat - i - 1 := by (first | lia | omega)
    rw [e1, e2]; exact p'
  · intro keep σ₁ s₁ Q E sg₁ hC hP hQ
    refine wpAny_pyNext_range_end hh hP ?_ fun h' sb => hQ h' s₁.toks (but1 sb)
    show ((b - a).toNat : Int) - (zseq a b).length ≤ 0
    unfold zseq; rw [List.length_map, List.length_range]; (first | lia | omega)
  · exact fun i s₁ Q E p q => wpAny_pyIter_rangeiter p q
  · have := Heap.get?_push_size s.heap (o := { cls := .type "range_iterator", data := .fields #[rawInt a, rawInt ((b - a).toNat : Int), rawInt 1] }) rfl
    simpa using this

theorem ITV.str {x : Str} {K : List V → (Store → Prop) → Store → Prop} (hh : A.handled = none) (ha : x.cps.all (· < 128) = true) (k : K (x.cps.toList.map fun c => .str ⟨#[c]⟩) (fun _ => True) σ) : ITV G A tg (.str x) σ K := fun keep s y E sg r => by
  cases r with
  | str _ t =>
  refine wpAny_pyIter_ascii ha ?_
  obtain ⟨e, w, g⟩ := newIter sg (o := { cls := .type "str_ascii_iterator", data := .fields #[.str x t, .int 0 0] })
  refine ⟨e, s.heap.objs.size, [s.heap.objs.size], _, fun _ => True, fun i h => h.IsStrIter s.heap.objs.size "str_ascii_iterator" x t i, rfl, ⟨?_, ?_, ?_, ?_, ?_⟩, ⟨_, Heap.get?_push_size _ rfl, rfl, rfl⟩, w, g, trivial, k⟩
  · intro i h ⟨o, ho, hc, hd⟩ b hb
    rw [mem1 hb]
    exact ⟨o, _, ho, hd, frz_cls hc rfl rfl⟩
  · exact fun i h h' ⟨o, p⟩ e hk => ⟨o, hk _ (List.mem_singleton_self _) _ p.1, p.2⟩
  · intro i v keep σ₁ s₁ Q E hi sg₁ hC hP hQ
    rw [List.getElem?_map] at hi
    cases hc : x.cps.toList[i]? with
    | none => rw [hc] at hi; cases hi
    | some c =>
      rw [hc] at hi; cases hi
      refine wpAny_pyNext_ascii_item hP (c := c) (by rw [← Array.getElem?_toList]; exact hc) fun h' p' sb => ⟨_, rfl, ?_⟩
      obtain ⟨o', ho', hc', _⟩ := id p'
      exact own_plain ho' hc' (by decide) (hQ _ h' (s₁.toks + 1) (but1 sb.extBut) (fun e => .str _ _) fun e => p')
  · intro keep σ₁ s₁ Q E sg₁ hC hP hQ
    exact wpAny_pyNext_ascii_end hh hP (by rw [List.length_map, Array.length_toList]; exact Array.getElem?_eq_none (Nat.le_refl _)) fun h' sb => hQ h' s₁.toks (but1 sb)
  · exact fun i s₁ Q E p q => wpAny_pyIter_striter_ascii p q

theorem ITV.dicI {a : Addr} {kvs : List (Int × V)} {ep : Nat} {K : List V → (Store → Prop) → Store → Prop} (hh : A.handled = none) (hσ : σ a = some (.dicI kvs ep)) (k : K (kvs.map fun p => .int p.1) (fun σ => σ a = some (.dicI kvs ep)) σ) : ITV G A tg (.ref a) σ K := fun keep s x E sg r => by
  cases r
  have hl : ∀ {keep σ} {s : Shared}, Sg G keep σ s → σ a = some (.dicI kvs ep) → (a == sysModules) = false ∧ ∃ ks, s.heap.DictAt (PySem.intKind G.prog G.w) a ks ep ∧ ks.map (·.1) = kvs.map (·.1) := fun sg e => by
    cases sg.hs.rep a _ e with | dicI m p l _ => exact ⟨m, _, p, l⟩
  obtain ⟨hm, ks, hx, hks⟩ := hl sg hσ
  have hlen : ks.length = kvs.length := by have := congrArg List.length hks; simpa using this
  refine wpAny_pyIter_dict hm hx ?_
  obtain ⟨e, w, g⟩ := newIter sg (o := { cls := .type "dict_keyiterator", data := .fields #[.ref a, .int 0 0, .int ks.length 0, .int ep 0] })
  refine ⟨e, s.heap.objs.size, [s.heap.objs.size], _, fun σ => σ a = some (.dicI kvs ep), fun i h => h.IsKeyIter s.heap.objs.size a i kvs.length ep, rfl, ⟨?_, ?_, ?_, ?_, ?_⟩, ⟨_, Heap.get?_push_size _ rfl, rfl, by rw [hlen]; rfl⟩, w, g, hσ, k⟩
  · intro i h ⟨o, ho, hc, hd⟩ b hb
    rw [mem1 hb]
    exact ⟨o, _, ho, hd, frz_cls hc rfl rfl⟩
  · exact fun i h h' p _ hk => p.at fun o q => hk _ (List.mem_singleton_self _) o q
  · intro i v keep σ₁ s₁ Q E hi sg₁ hC hP hQ
    obtain ⟨_, ks₁, hy, hk₁⟩ := hl sg₁ hC
    have hl₁ : ks₁.length = kvs.length := by have := congrArg List.length hk₁; simpa using this
    have hkey : ∃ key y, ks₁[i]? = some (key, y) ∧ v = .int key := by
      have h1 : (ks₁.map (·.1))[i]? = (kvs.map (·.1))[i]? := by rw [hk₁]
      rw [List.getElem?_map, List.getElem?_map] at h1
      rw [List.getElem?_map] at hi
      cases hkv : kvs[i]? with
      | none => rw [hkv] at hi; cases hi
      | some p =>
        rw [hkv] at hi h1; cases hi
        cases hq : ks₁[i]? with
        | none => rw [hq] at h1; cases h1
        | some q => rw [hq] at h1; obtain ⟨q1, q2⟩ := q; cases h1; exact ⟨_, _, rfl, rfl⟩
    obtain ⟨key, y, e1, rfl⟩ := hkey
    refine wpAny_pyNext_dict_item (by rw [hl₁]; exact hP) hy e1 fun kv h' hk' p' sb => ⟨kv, rfl, ?_⟩
    obtain ⟨o', ho', hc', _⟩ := id p'
    obtain ⟨t, rfl⟩ := Value.isInt_shape hk'
    exact own_plain ho' hc' (by decide) (hQ _ h' s₁.toks (but1 sb.extBut) (fun e => .int _ _) fun _ => by rw [← hl₁]; exact p')
  · intro keep σ₁ s₁ Q E sg₁ hC hP hQ
    obtain ⟨_, ks₁, hy, hk₁⟩ := hl sg₁ hC
    have hl₁ : ks₁.length = kvs.length := by have := congrArg List.length hk₁; simpa using this
    exact wpAny_pyNext_dict_end hh (by rw [hl₁]; exact hP) hy (List.getElem?_eq_none (by rw [hl₁, List.length_map]; exact Nat.le_refl _)) fun h' sb => hQ h' s₁.toks (but1 sb)
  · exact fun i s₁ Q E p q => wpAny_pyIter_keyiter p q
end
section
variable {G : Gl} {A : Around} {σ : Store} {Q : V → Store → Prop} {i j : Int} {x y : Str}

theorem Sg.pv {keep : Keep} {s : Shared} {tk : Nat} {v : V} {z : Value} (g : Sg G keep σ s) (r : R G s.heap v z) (q : Q v σ) : pv G (Sg G keep) s.heap Q z { s with toks := tk } := ⟨.refl _, v, σ, g.tok, r, q⟩
theorem OP.add (q : Q (.int (i + j)) σ) : OP G A (binaryOp .Add) (.int i) (.int j) σ Q := fun keep s x y E g rx ry => by cases rx; cases ry; exact add_int (g.pv (.int _ _) q)
theorem OP.sub (q : Q (.int (i - j)) σ) : OP G A (binaryOp .Sub) (.int i) (.int j) σ Q := fun keep s x y E g rx ry => by cases rx; cases ry; exact sub_int (g.pv (.int _ _) q)
theorem OP.mul (hm : IntMulOk i j) (q : Q (.int (i * j)) σ) : OP G A (binaryOp .Mult) (.int i) (.int j) σ Q := fun keep s x y E g rx ry => by cases rx; cases ry; exact PySem.P.mul_int (g.pv (.int _ _) q) hm
theorem OP.fdiv (h0 : j ≠ 0) (hs : j.natAbs < 1073741824) (q : Q (.int (i.fdiv j)) σ) : OP G A (binaryOp .FloorDiv) (.int i) (.int j) σ Q := fun keep s x y E g rx ry => by cases rx; cases ry; exact floordiv_int h0 (g.pv (.int _ _) q) (.inl (PyProof.noPylong_small hs))
theorem OP.mod (h0 : j ≠ 0) (q : Q (.int (i.fmod j)) σ) : OP G A (binaryOp .Mod) (.int i) (.int j) σ Q := fun keep s x y E g rx ry => by cases rx; cases ry; exact mod_int h0 (g.pv (.int _ _) q)
theorem OP.shr (h0 : 0 ≤ j) (q : Q (.int (i.fdiv (2 ^ j.toNat))) σ) : OP G A (binaryOp .RShift) (.int i) (.int j) σ Q := fun keep s x y E g rx ry => by cases rx; cases ry; exact rshift_int h0 (g.pv (.int _ _) q)
theorem OP.band (q : Q (.int (Builtin.bitAnd i j)) σ) : OP G A (binaryOp .BitAnd) (.int i) (.int j) σ Q := fun keep s x y E g rx ry => by cases rx; cases ry; exact and_int (g.pv (.int _ _) q)
theorem str_of_len0 {x : Str} (h : x.length = 0) : x = ⟨#[]⟩ := by
  obtain ⟨c⟩ := x
  have hc : c = #[] := by simpa [Str.length] using h
  rw [hc]
theorem OP.cat (hz : x.length + y.length ≤ 100000) (q : Q (.str (x ++ y)) σ) : OP G A (binaryOp .Add) (.str x) (.str y) σ Q := fun keep s a b E g rx ry => by
  cases rx; cases ry
  refine PySem.P.add_str ?_
  by_cases h1 : x.length = 0
  · rw [if_pos (by rw [h1]; rfl)]
    rw [str_of_len0 h1, show (⟨#[]⟩ : Str) ++ y = y from Str.empty_append y] at q
    exact g.pv (tk := s.toks) (.str _ _) q
  · rw [if_neg (by simpa using h1)]
    by_cases h2 : y.length = 0
    · rw [if_pos (by rw [h2]; rfl)]
      rw [str_of_len0 h2, show x ++ (⟨#[]⟩ : Str) = x from Str.append_empty x] at q
      exact g.pv (tk := s.toks) (.str _ _) q
    · rw [if_neg (by simpa using h2)]
      exact ⟨by rw [Str.length_append]; exact Nat.le_trans hz (by decide), g.pv (.str _ _) q⟩
theorem OP.lt (q : Q (.bool (decide (i < j))) σ) : OP G A (compareOp .Lt) (.int i) (.int j) σ Q := fun keep s x y E g rx ry => by cases rx; cases ry; exact lt_int (g.pv (tk := s.toks) (.bool _) q)
theorem OP.gt (q : Q (.bool (decide (j < i))) σ) : OP G A (compareOp .Gt) (.int i) (.int j) σ Q := fun keep s x y E g rx ry => by cases rx; cases ry; exact gt_int (g.pv (tk := s.toks) (.bool _) q)
theorem OP.eqi (q : Q (.bool (i == j)) σ) : OP G A (compareOp .Eq) (.int i) (.int j) σ Q := fun keep s x y E g rx ry => by cases rx; cases ry; exact eq_int (g.pv (tk := s.toks) (.bool _) q)
theorem OP.nei (q : Q (.bool (i != j)) σ) : OP G A (compareOp .NotEq) (.int i) (.int j) σ Q := fun keep s x y E g rx ry => by cases rx; cases ry; exact ne_int (g.pv (tk := s.toks) (.bool _) q)
theorem str_beq {x y : Str} : (x.cps.toList == y.cps.toList) = (x == y) := by
  by_cases h : x = y
  · subst h; simp
  · have h' : ¬ x.cps.toList = y.cps.toList := fun e => h (by cases x; cases y; simp only [Str.mk.injEq]; exact Array.toList_inj.mp e)
    rw [beq_eq_false_iff_ne.mpr h, beq_eq_false_iff_ne.mpr h']
theorem OP.eqs (q : Q (.bool (x == y)) σ) : OP G A (compareOp .Eq) (.str x) (.str y) σ Q := fun keep s a b E g rx ry => by cases rx; cases ry; exact PySem.P.eq_str (g.pv (tk := s.toks) (by rw [str_beq]; exact .bool _) q)
theorem OP.nes (q : Q (.bool (x != y)) σ) : OP G A (compareOp .NotEq) (.str x) (.str y) σ Q := fun keep s a b E g rx ry => by cases rx; cases ry; exact PySem.P.ne_str (g.pv (tk := s.toks) (by unfold bne; rw [str_beq]; exact .bool _) q)
/-- is None, is True: plain values -/
noncomputable def plainV : V → Bool
  | .none | .bool _ => true
  | .raw (.type _) => true
  | _ => false
theorem TV.bool {b : Bool} {Q : Bool → Store → Prop} (q : Q b σ) : TV G A (.bool b) σ Q := fun keep s x E g r => by cases r; exact wpAny_truthy_bool ⟨.refl _, σ, g, q⟩
theorem TV.str {Q : Bool → Store → Prop} (hz : x.length ≤ 100000) (q : Q (x.length != 0) σ) : TV G A (.str x) σ Q := fun keep s a E g r => by
  cases r
  refine PySem.P.truthy_str (by (first | lia | omega)) ⟨.refl _, σ, g.tok, ?_⟩
  rw [show ((x.length : Int) != 0) = (x.length != 0) from by
    cases h : x.length with
    | zero => rfl
    | succ n => rfl]
  exact q
theorem Sg.list {keep : Keep} {s : Shared} (g : Sg G keep σ s) {a : Addr} {vs : List V} (e : σ a = some (.list vs)) : ∃ xs, s.heap.PlainList a xs ∧ RL G s.heap vs xs.toList ∧ xs.size = vs.length := by
  cases g.hs.rep a _ e with
  | list p l => exact ⟨_, p, l, by rw [← Array.length_toList, l.length]⟩
theorem TV.list {a : Addr} {vs : List V} {Q : Bool → Store → Prop} (e : σ a = some (.list vs)) (hz : vs.length ≤ 1000) (q : Q (!vs.isEmpty) σ) : TV G A (.ref a) σ Q := fun keep s x E g r => by
  cases r
  obtain ⟨xs, p, l, z⟩ := g.list e
  refine wpAny_truthy_list p.isList (by (first | lia | omega)) ⟨.refl _, σ, g.tok, ?_⟩
  rw [show xs.isEmpty = vs.isEmpty from by
    cases vs with
    | nil => have : xs = #[] := by simpa using z
             rw [this]; rfl
    | cons v vs => cases h : xs.isEmpty with
      | false => rfl
      | true => rw [Array.isEmpty_iff.mp h] at z; cases z]
  exact q
theorem TV.none {Q : Bool → Store → Prop} (q : Q false σ) : TV G A .none σ Q := fun keep s x E g r => by cases r; exact truthy_none ⟨.refl _, σ, g, q⟩
theorem OP.addL {a b : Addr} {vs ws : List V} (ha : σ a = some (.list vs)) (hb : σ b = some (.list ws)) (hz : vs.length + ws.length ≤ 1000) (q : ∀ c, σ c = none → Q (.ref c) (upd σ c (.list (vs ++ ws)))) : OP G A (binaryOp .Add) (.ref a) (.ref b) σ Q := fun keep s x y E g rx ry => by
  cases rx; cases ry
  obtain ⟨xs, ⟨n, p⟩, l, z⟩ := g.list ha
  obtain ⟨ys, ⟨m, p'⟩, l', z'⟩ := g.list hb
  refine PySem.P.add_list p p' ?_ (by rw [z, z']; exact Nat.le_trans hz (by decide))
  have g' := g.newList (n := 0) (l.append l')
  rw [show (xs.toList ++ ys.toList).toArray = xs ++ ys from by simp] at g'
  exact ⟨.push _ _, _, _, g', .raw _, q _ (g.hs.fresh (Heap.size_none _))⟩
end
section
variable {G : Gl} {A : Around} {env : Env} {ρ : Rho} {σ : Store} {Q : V → Store → Prop} {i j : Int} {x y : Str}

/-- an item asked -/
noncomputable def GI (G : Gl) (A : Around) (a b : V) (σ : Store) (Q : V → Store → Prop) : Prop := ∀ keep s x y E, Sg G keep σ s → R G s.heap a x → R G s.heap b y →
  ∃ T id, s.TypeIs x T ∧ typeLookup (.type T) "__getitem__" = pure (some (.builtin id)) ∧ wpAny (MM G) A (getItem x y) (pv G (Sg G keep) s.heap Q) E s
theorem subscripted_op (slice : Expr) (o i : Value) : ∃ ops, subscripted slice false o i = operate ops (getItem o i) := by
  unfold subscripted
  split <;> first | exact ⟨_, rfl⟩ | contradiction
noncomputable abbrev giK (G : Gl) (A : Around) (Q : V → Store → Prop) (a : V) : V → Store → Prop := fun b σ => GI G A a b σ Q
noncomputable abbrev subK (G : Gl) (A : Around) (env : Env) (i : Expr) (ρ : Rho) (Q : V → Store → Prop) : V → Store → Prop := fun a σ => EV G A env i ρ σ (giK G A Q a)
theorem EV.sub {value slice : Expr} {pos : Pos} (h : EV G A env value ρ σ (subK G A env slice ρ Q)) : EV G A env (.Subscript value slice pos) ρ σ Q := fun keep s E st =>
  Subscript_ (wpAny_mono (h keep s E st) (fun x s₁ h₁ => by
    obtain ⟨e₁, a, σ₁, st₁, ra, h₁⟩ := h₁
    refine wpAny_mono (h₁ keep s₁ E st₁) (fun y s₂ h₂ => ?_) fun _ _ x => x
    obtain ⟨e₂, b, σ₂, st₂, rb, h₂⟩ := h₂
    obtain ⟨T, id, hT, hl, hw⟩ := h₂ _ s₂ x y E st₂.sg (ra.ext e₂) rb
    obtain ⟨ops, hs⟩ := subscripted_op slice x y
    exact wpAny_mono (lift st₂ (tail_any hT hl hw hs)) (fun _ _ p => (p.up e₂).up e₁) fun _ _ x => x) fun _ _ x => x)
theorem seqIndex_of {i : Int} {n : Nat} (h0 : 0 ≤ i) (h : i.toNat < n) : seqIndex? i n = some i.toNat := by
  have h1 : ¬ i < 0 := by (first | lia | omega)
  have h2 : i < (n : Int) := by (first | lia | omega)
  simp [seqIndex?, h1, h0, h2]
theorem GI.list {a : Addr} {vs : List V} {v : V} (e : σ a = some (.list vs)) (h0 : 0 ≤ i) (hv : vs[i.toNat]? = some v) (hz : vs.length ≤ 100000) (q : Q v σ) : GI G A (.ref a) (.int i) σ Q := fun keep s x y E g rx ry => by
  cases rx; cases ry
  obtain ⟨xs, p, l, z⟩ := g.list e
  obtain ⟨w, ew, rw_⟩ := l.get hv
  have hlt : i.toNat < vs.length := (List.getElem?_eq_some_iff.mp hv).1
  exact ⟨"list", _, p.isList.typeIs, slot_list_getitem.lookup, wpAny_getItem_list p.isList h0 (by (first | lia | omega)) (x := w) (by rw [← Array.getElem?_toList]; exact ew) (g.pv (tk := s.toks) rw_ q)⟩
theorem GI.tup {vs : List V} {v : V} (h0 : 0 ≤ i) (hv : vs[i.toNat]? = some v) (hz : vs.length ≤ 100000) (q : Q v σ) : GI G A (.tup vs) (.int i) σ Q := fun keep s x y E g rx ry => by
  cases ry
  cases rx with
  | @tup t xs n _ ht l =>
  obtain ⟨w, ew, rw_⟩ := l.get hv
  have hlt : i.toNat < vs.length := (List.getElem?_eq_some_iff.mp hv).1
  have hlt' : i.toNat < xs.size := by rw [← Array.length_toList, ← l.length]; exact hlt
  have T : IsTup s.heap t xs := ⟨_, ht, rfl, n, rfl⟩
  refine ⟨"tuple", _, ⟨_, ht, rfl⟩, PySem.F.slot_tuple_getitem.lookup, PyProof.Rows.getItem_tuple (j := i.toNat) T (by (first | lia | omega)) (by (first | lia | omega)) (seqIndex_of h0 hlt') (x := w) (by rw [← Array.getElem?_toList]; exact ew) (g.pv (tk := s.toks) rw_ q)⟩
theorem GI.lst {vs : List V} {v : V} (h0 : 0 ≤ i) (hv : vs[i.toNat]? = some v) (hz : vs.length ≤ 100000) (q : Q v σ) : GI G A (.lst vs) (.int i) σ Q := fun keep s x y E g rx ry => by
  cases ry
  cases rx with
  | @lst t o xs n _ _ ho hc l =>
  obtain ⟨w, ew, rw_⟩ := l.get hv
  have hlt : i.toNat < vs.length := (List.getElem?_eq_some_iff.mp hv).1
  have T : s.heap.IsList t xs := ⟨_, ho, hc.1, n, hc.2⟩
  exact ⟨"list", _, T.typeIs, slot_list_getitem.lookup, wpAny_getItem_list T h0 (by (first | lia | omega)) (x := w) (by rw [← Array.getElem?_toList]; exact ew) (g.pv (tk := s.toks) rw_ q)⟩
theorem GI.str {c : Nat} (h0 : 0 ≤ i) (hv : x.cps.toList[i.toNat]? = some c) (hz : x.length ≤ 100000) (q : Q (.str ⟨#[c]⟩) σ) : GI G A (.str x) (.int i) σ Q := fun keep s a b E g rx ry => by
  cases rx; cases ry
  have hlt : i.toNat < x.cps.toList.length := (List.getElem?_eq_some_iff.mp hv).1
  rw [Array.length_toList] at hlt
  have hlen : x.length = x.cps.size := rfl
  refine ⟨"str", _, typeIs_str _ _ _, PySem.F.slot_str_getitem.lookup, PySem.P.getItem_str (c := c) ?_ ?_ (g.pv (.str _ _) q)⟩
  · simp only [Bool.or_eq_false_iff, decide_eq_false_iff_not]; (first | lia | omega)
  · rw [seqIndex_of h0 (n := x.length) hlt]
    show x.cps[i.toNat]? = some c
    rw [← Array.getElem?_toList]; exact hv

/-- an item stored -/
noncomputable def SI (G : Gl) (A : Around) (a b v : V) (σ : Store) (Q : Store → Prop) : Prop := ∀ keep s x y z E, Sg G keep σ s → R G s.heap a x → R G s.heap b y → R G s.heap v z →
  wpAny (MM G) A (setItem x y z) (fun _ s' => Ext G s.heap s'.heap ∧ ∃ σ', Sg G keep σ' s' ∧ Q σ') E s
noncomputable abbrev siK (G : Gl) (A : Around) (Q : Store → Prop) (v a : V) : V → Store → Prop := fun b σ => SI G A a b v σ Q
noncomputable abbrev asubK (G : Gl) (A : Around) (env : Env) (i : Expr) (v : V) (ρ : Rho) (Q : Store → Prop) : V → Store → Prop := fun a σ => EV G A env i ρ σ (siK G A Q v a)
theorem AS.sub {o k : Expr} {pos : Pos} {v : V} {Q : Rho → Store → Prop} (h : EV G A env o ρ σ (asubK G A env k v ρ (Q ρ))) : AS G A env (.Subscript o k pos) v ρ σ Q := fun keep s z E st r => by
  show wpAny (MM G) A (holding [z] (eval o env) >>= fun ov => holding [z, ov] (eval k env) >>= fun iv => standAt pos >>= fun _ => holding [z, ov, iv] (setItem ov iv z) >>= fun _ => release _ []) _ E s
  refine wpAny_bind (wpAny_holding (wpAny_mono (h keep s E st) (fun x s₁ h₁ => ?_) fun _ _ x => x))
  obtain ⟨e₁, a, σ₁, st₁, ra, h₁⟩ := h₁
  refine wpAny_bind (wpAny_holding (wpAny_mono (h₁ keep s₁ E st₁) (fun y s₂ h₂ => ?_) fun _ _ x => x))
  obtain ⟨e₂, b, σ₂, st₂, rb, h₂⟩ := h₂
  refine wpAny_bind (wpAny_standAt (wpAny_bind (wpAny_holding (wpAny_mono (h₂ _ s₂ x y z E st₂.sg (ra.ext e₂) rb (r.ext (e₁.trans e₂))) (fun _ s₃ h₃ => ?_) fun _ _ x => x))))
  obtain ⟨e₃, σ₃, sg₃, q⟩ := h₃
  exact fun Γ p hΓ => by rw [Sem.wp_release]; exact ⟨(e₁.trans e₂).trans e₃, ρ, σ₃, st₂.back sg₃ e₃, q⟩
theorem store_plain {prog : Program} {w : World} {E : Value → Shared → Prop} {s : Shared} {l : Addr} {xs : Array Value} {n : Nat} {k : Int} {t : Tok} {v : Value} {P : Unit → Shared → Prop} (hl : PySem.IsL s.heap l xs n) (h0 : 0 ≤ k) (hj : k.toNat < xs.size) (hfit : k < 2 ^ 63)
    (h : ∀ h', h'.PlainList l (xs.setIfInBounds k.toNat v) → Heap.SameBut l s.heap h' → P () { s with heap := h' }) : wpAny (model prog w) A (setItem (.ref l) (.int k t) v) P E s := by
  have ty : s.TypeIs (.ref l) "list" := ⟨_, hl, rfl⟩
  have fin := h _ ⟨_, PySem.IsL.update hl (·.setIfInBounds k.toNat v)⟩ (Heap.SameBut.update ..)
  unfold setItem
  refine wpAny_holding (wpAny_bind (wpAny_sequenceKey ty (by decide) (wpAny_bind (wpAny_callSpecial?_slot (name := Str.ofString "__setitem__") ty slot_list_setitem
    (wpAny_call_entry slot_list_setitem ty entry_list_setitem ?_ (args_list_setitem _ _ _))))))
  show wpAny _ _ (Builtin.List.listSubscript? (.int k t) >>= _) _ _ s
  refine wpAny_bind (wpAny_listSubscript_int (fitsIndex_of h0 hfit) ?_)
  clear hfit h
  obtain ⟨j, rfl⟩ := Int.eq_ofNat_of_zero_le h0
  rw [Int.toNat_natCast] at hj fin
  show wpAny _ _ ((seqItemAt l j >>= fun r => pure (r.map (j, ·))) >>= _) _ _ s
  refine wpAny_bind (wpAny_bind (wpAny_seqItemAt hl rfl (wpAny_pure ?_)))
  rw [Array.getElem?_eq_getElem hj]
  show wpAny _ _ (setSeqItemAt l j v >>= _) _ _ s
  refine wpAny_bind (wpAny_setSeqItemAt hl rfl ?_)
  first | exact wpAny_pure ⟨.none, rfl, wpAny_pure fin⟩ | exact wpAny_bind (wpAny_pure (wpAny_pure ⟨.none, rfl, wpAny_pure fin⟩))
theorem SI.list {a : Addr} {vs : List V} {v : V} {Q : Store → Prop} (e : σ a = some (.list vs)) (h0 : 0 ≤ i) (hi : i.toNat < vs.length) (hz : vs.length ≤ 100000) (q : Q (upd σ a (.list (vs.set i.toNat v)))) : SI G A (.ref a) (.int i) v σ Q := fun keep s x y z E g rx ry rz => by
  cases rx; cases ry
  obtain ⟨xs, ⟨n, p⟩, l, hs⟩ := g.list e
  refine store_plain p h0 (by (first | lia | omega)) (by (first | lia | omega)) fun h' p' sb => ?_
  obtain ⟨hs', he⟩ := g.hs.put (o' := .list (vs.set i.toNat v)) e (But.one sb) fun he => .list p' (by
    rw [Array.toList_setIfInBounds]
    exact (l.ext he).set _ (rz.ext he))
  exact ⟨he, _, ⟨g.gens, g.os, hs'⟩, q⟩
theorem ES.expr {e : Expr} {pos : Pos} {Q : F → Rho → Store → Prop} (h : EV G A env e ρ σ fun _ σ' => Q .next ρ σ') (hi : interactive env = false := by rfl) (hs : swapsWith e none pos.line env = pure false := by rfl) : ES G A env (.Expr e pos) ρ σ Q := fun keep s E st =>
  wpAny_Expr_any (wpAny_mono (h keep s E st) (fun _ s' h' => by obtain ⟨e, v, σ', g, r, q⟩ := h'; exact ⟨e, .next, ρ, σ', .next, g, q⟩) fun _ _ x => x) hi hs
end
section
variable {G : Gl} {A : Around} {env : Env} {ρ : Rho} {σ : Store} {Q : V → Store → Prop} {i j : Int} {x y : Str}

theorem EV.bf {nm : Str} {id : String} {p pos : Pos} {e : Expr} {es : List Expr} (hb : bootBuiltins nm = some (.builtin id)) (h : EL G A env pos (e :: es) ρ σ (fnK G A (.builtin id) Q)) (hk : env.kindOf nm = some .globalImplicit := by rfl)
    (hm : bltNames.contains nm = true ∧ nm ≠ "__name__" ∧ (nm == ("__debug__" : Str)) = false := by decide +kernel) (he : starEach (e :: es) env = (false, eval e env) :: starEach es env := by rfl)
    (hp : (backTo pos (starEach es env)).any (·.1) = false := by rfl) : EV G A env (.Call (.Name nm p) (e :: es) [] pos) ρ σ Q := fun keep s E st => by
  refine PyProof.Rows.Call_ (Calls.Name_function_global st.loc.kind hk (Calls.loadGlobal_builtin (by rw [st.loc.glob]; exact G.ga.keeps st.hs.H) (G.nob _ hm.1) (by rw [st.loc.bi]; exact G.bi.keeps st.hs.H) ((G.boot nm hm.2.1).trans hb) ?_) hm.2.2)
  refine PyProof.Rows.callWith_builtin1 (wpAny_mono (h keep s E st) (fun xs s₁ h₁ => ?_) fun _ _ x => x) he hp
  obtain ⟨e₁, vs, σ₁, st₁, r₁, h₁⟩ := h₁
  exact wpAny_mono (lift st₁ (h₁ _ s₁ xs E st₁.sg r₁)) (fun _ _ p => p.up e₁) fun _ _ x => x
theorem EV.bt {nm : Str} {T : String} {p pos : Pos} {e : Expr} {es : List Expr} (hb : bootBuiltins nm = some (.type T)) (h : EL G A env pos (e :: es) ρ σ (fnK G A (.type T) Q)) (hk : env.kindOf nm = some .globalImplicit := by rfl)
    (hm : bltNames.contains nm = true ∧ nm ≠ "__name__" ∧ (nm == ("__debug__" : Str)) = false := by decide +kernel) (he : starEach (e :: es) env = (false, eval e env) :: starEach es env := by rfl)
    (hp : (backTo pos (starEach es env)).any (·.1) = false := by rfl) : EV G A env (.Call (.Name nm p) (e :: es) [] pos) ρ σ Q := fun keep s E st => by
  refine PyProof.Rows.Call_ (Calls.Name_function_global st.loc.kind hk (Calls.loadGlobal_builtin (by rw [st.loc.glob]; exact G.ga.keeps st.hs.H) (G.nob _ hm.1) (by rw [st.loc.bi]; exact G.bi.keeps st.hs.H) ((G.boot nm hm.2.1).trans hb) ?_) hm.2.2)
  refine PyProof.Rows.callWith_type1 (wpAny_mono (h keep s E st) (fun xs s₁ h₁ => ?_) fun _ _ x => x) he hp
  obtain ⟨e₁, vs, σ₁, st₁, r₁, h₁⟩ := h₁
  exact wpAny_mono (lift st₁ (h₁ _ s₁ xs E st₁.sg r₁)) (fun _ _ p => p.up e₁) fun _ _ x => x

/-- the method that a value has -/
noncomputable def GM (G : Gl) (A : Around) (a : V) (name : Str) (id : String) (σ : Store) : Prop := ∀ keep s x (pl : Sem Bool) (P : Value × List Value → Shared → Prop) E, Sg G keep σ s → R G s.heap a x → P (.builtin id, [x]) s → wpAny (MM G) A (getMethod x name pl) P E s
noncomputable abbrev mfK (G : Gl) (A : Around) (id : String) (Q : V → Store → Prop) (a : V) : List V → Store → Prop := fun vs σ => FN G A (.builtin id) (a :: vs) σ Q
noncomputable abbrev methK (G : Gl) (A : Around) (env : Env) (name : Str) (id : String) (pos : Pos) (es : List Expr) (ρ : Rho) (Q : V → Store → Prop) : V → Store → Prop := fun a σ => GM G A a name id σ ∧ EL G A env pos es ρ σ (mfK G A id Q a)
theorem EV.meth {o e : Expr} {es : List Expr} {name : Str} {apos pos : Pos} {pl : Sem Bool} (id : String) (h : EV G A env o ρ σ <| methK G A env name id pos (e :: es) ρ Q)
    (hx : eval (.Call (.Attribute o name apos) (e :: es) [] pos) env = (do
      let ov ← eval o env
      standAt apos.atName
      let (f, first) ← holding [ov] (getMethod ov name pl)
      callWith pos f first (backTo pos (starEach (e :: es) env)) []) := by rfl)
    (he : starEach (e :: es) env = (false, eval e env) :: starEach es env := by rfl) (hp : (backTo pos (starEach es env)).any (·.1) = false := by rfl) :
    EV G A env (.Call (.Attribute o name apos) (e :: es) [] pos) ρ σ Q := fun keep s E st => by
  refine MethodCall_ (pl := pl) (wpAny_mono (h keep s E st) (fun x s₁ h₁ => ?_) fun _ _ x => x) hx
  obtain ⟨e₁, a, σ₁, st₁, ra, hg, h₁⟩ := h₁
  refine hg _ s₁ x _ _ E st₁.sg ra ?_
  refine PyProof.Rows.callWith_method1 (wpAny_mono (h₁ keep s₁ E st₁) (fun xs s₂ h₂ => ?_) fun _ _ x => x) he hp
  obtain ⟨e₂, vs, σ₂, st₂, r₂, h₂⟩ := h₂
  exact wpAny_mono (lift st₂ (h₂ _ s₂ (x :: xs) E st₂.sg (.cons (ra.ext e₂) r₂))) (fun _ _ p => (p.up e₂).up e₁) fun _ _ x => x
theorem EV.meth0 {o : Expr} {name : Str} {apos pos : Pos} {pl : Sem Bool} (id : String) (h : EV G A env o ρ σ fun a σ₁ => GM G A a name id σ₁ ∧ FN G A (.builtin id) [a] σ₁ Q)
    (hx : eval (.Call (.Attribute o name apos) [] [] pos) env = (do
      let ov ← eval o env
      standAt apos.atName
      let (f, first) ← holding [ov] (getMethod ov name pl)
      callWith pos f first (backTo pos (starEach [] env)) []) := by rfl) :
    EV G A env (.Call (.Attribute o name apos) [] [] pos) ρ σ Q := fun keep s E st => by
  refine MethodCall_ (pl := pl) (wpAny_mono (h keep s E st) (fun x s₁ h₁ => ?_) fun _ _ x => x) hx
  obtain ⟨e₁, a, σ₁, st₁, ra, hg, h₁⟩ := h₁
  refine hg _ s₁ x _ _ E st₁.sg ra ?_
  exact PyProof.Rows.callWith_method0 (wpAny_mono (lift st₁ (h₁ _ s₁ [x] E st₁.sg (.cons ra .nil))) (fun _ _ p => p.up e₁) fun _ _ x => x)

theorem GM.append {a : Addr} {vs : List V} (e : σ a = some (.list vs)) : GM G A (.ref a) "append" "list.append" σ := fun keep s x pl P E g r h => by
  cases r
  obtain ⟨xs, ⟨n, p⟩, _⟩ := g.list e
  exact Calls.getMethod_list_append p rfl rfl h
theorem FN.append {a : Addr} {vs : List V} {v : V} (e : σ a = some (.list vs)) (hz : vs.length ≤ 10000) (q : Q .none (upd σ a (.list (vs ++ [v])))) : FN G A (.builtin "list.append") [.ref a, v] σ Q := fun keep s xs E g r => by
  cases r with
  | cons r1 r2 => cases r1; cases r2 with
    | cons rv r3 => cases r3; exact (by
        obtain ⟨ys, p, l, z⟩ := g.list e
        refine wpAny_list_append_plain p (fun h' p' sb => ?_) (by rw [z]; exact Nat.le_trans hz (by decide))
        obtain ⟨hs', he⟩ := g.hs.put (o' := .list (vs ++ [v])) e (But.one sb) fun he => .list p' (by rw [Array.toList_push]; exact (l.ext he).snoc (rv.ext he))
        exact ⟨he, _, _, ⟨g.gens, g.os, hs'⟩, .none, q⟩)
theorem FN.len {a : Addr} {vs : List V} (e : σ a = some (.list vs)) (hz : vs.length ≤ 10000) (q : Q (.int vs.length) σ) : FN G A (.builtin "len") [.ref a] σ Q := fun keep s xs E g r => by
  cases r with
  | cons r1 r2 => cases r1; cases r2; exact (by
      obtain ⟨ys, p, l, z⟩ := g.list e
      refine PyProof.Rows.len_list p.isList (by (first | lia | omega)) ?_
      rw [z]
      exact g.pv (.int _ _) q)
end
section
open PySem.SeqAt
open AutoSeq1 (wpAny_loadPart')
open MeetsSeq MeetsSeq2 MeetsSeq3 SeqRoads2
theorem tuple_lt2 (l b : Addr) (x1 x2 y1 y2 : Value) (n n2 : Nat) (b1 b2 c1 c2 : Bool) :
    Meets (Builtin.«tuple.__lt__» ⟨[.ref l, .ref b], []⟩)
      (fun A R s => s.heap.get? l = some { cls := .type "tuple", dict := none, data := .seq #[x1, x2] n, slots := #[] } ∧ s.heap.get? b = some { cls := .type "tuple", dict := none, data := .seq #[y1, y2] n2, slots := #[] } ∧
        EqAt A.in1 s x1 y1 b1 ∧ EqAt A.in1 s x2 y2 b2 ∧
        (∀ prog w E Q, Q (.bool c1) s → wpAny (model prog w) A.in1 (richCompare .Lt x1 y1) Q E s) ∧ (∀ prog w E Q, Q (.bool c2) s → wpAny (model prog w) A.in1 (richCompare .Lt x2 y2) Q E s) ∧
        R (.ok (.ret (.bool (if b1 = true then (if b2 = true then false else c2) else c1)))) s) :=
  .of_wp fun prog w A R s h => by
    obtain ⟨hp, g, d, tk, os⟩ := s; obtain ⟨hl, hb, e1, e2, r1, r2, h⟩ := h
    have f2 := AutoSeq1.sub_tuple_tuple
    wp_walk using wpAny_loadPart' hl, wpAny_loadPart' hb, wpAny_forIn_list _ (fun rest b s' => b.1 = none ∧ s' = ⟨hp, g, d, tk, os⟩ ∧
      ((rest = [(x1, y1), (x2, y2)] ∧ R (.ok (.ret (.bool (if b1 = true then (if b2 = true then false else c2) else c1)))) ⟨hp, g, d, tk, os⟩) ∨
       (rest = [(x2, y2)] ∧ R (.ok (.ret (.bool (if b2 = true then false else c2)))) ⟨hp, g, d, tk, os⟩) ∨ (rest = [] ∧ R (.ok (.ret (.bool false))) ⟨hp, g, d, tk, os⟩))) _
    case turn =>
      rintro ⟨y, x⟩ rest b s' ⟨hb', rfl, h | h | h⟩
      · obtain ⟨hz, hR⟩ := h
        injection hz with hyx hrest
        injection hyx with hy hx
        subst hy hx hrest
        refine wpAny_bind (e1 prog w _ _ ?_)
        cases b1 with
        | true => wp_walk; exact ⟨rfl, rfl, .inr (.inl ⟨rfl, hR⟩)⟩
        | false => wp_walk using r1 prog w; exact ⟨_, rfl, hR⟩
      · obtain ⟨hz, hR⟩ := h
        injection hz with hyx hrest
        injection hyx with hy hx
        subst hy hx hrest
        refine wpAny_bind (e2 prog w _ _ ?_)
        cases b2 with
        | true => wp_walk; exact ⟨rfl, rfl, .inr (.inr ⟨rfl, hR⟩)⟩
        | false => wp_walk using r2 prog w; exact ⟨_, rfl, hR⟩
      · cases h.1
    case fin =>
      rintro ⟨b1, b2⟩ s' ⟨hb', rfl, h | h | h⟩
      · cases h.1
      · cases h.1
      · simp only at hb'
        subst hb'
        wp_walk
        exact ⟨_, rfl, h.2⟩
    case h => exact ⟨rfl, rfl, .inl ⟨rfl, h⟩⟩
theorem tuple_gt2 (l b : Addr) (x1 x2 y1 y2 : Value) (n n2 : Nat) (b1 b2 c1 c2 : Bool) :
    Meets (Builtin.«tuple.__gt__» ⟨[.ref l, .ref b], []⟩)
      (fun A R s => s.heap.get? l = some { cls := .type "tuple", dict := none, data := .seq #[x1, x2] n, slots := #[] } ∧ s.heap.get? b = some { cls := .type "tuple", dict := none, data := .seq #[y1, y2] n2, slots := #[] } ∧
        EqAt A.in1 s x1 y1 b1 ∧ EqAt A.in1 s x2 y2 b2 ∧
        (∀ prog w E Q, Q (.bool c1) s → wpAny (model prog w) A.in1 (richCompare .Gt x1 y1) Q E s) ∧ (∀ prog w E Q, Q (.bool c2) s → wpAny (model prog w) A.in1 (richCompare .Gt x2 y2) Q E s) ∧
        R (.ok (.ret (.bool (if b1 = true then (if b2 = true then false else c2) else c1)))) s) :=
  .of_wp fun prog w A R s h => by
    obtain ⟨hp, g, d, tk, os⟩ := s; obtain ⟨hl, hb, e1, e2, r1, r2, h⟩ := h
    have f2 := AutoSeq1.sub_tuple_tuple
    wp_walk using wpAny_loadPart' hl, wpAny_loadPart' hb, wpAny_forIn_list _ (fun rest b s' => b.1 = none ∧ s' = ⟨hp, g, d, tk, os⟩ ∧
      ((rest = [(x1, y1), (x2, y2)] ∧ R (.ok (.ret (.bool (if b1 = true then (if b2 = true then false else c2) else c1)))) ⟨hp, g, d, tk, os⟩) ∨
       (rest = [(x2, y2)] ∧ R (.ok (.ret (.bool (if b2 = true then false else c2)))) ⟨hp, g, d, tk, os⟩) ∨ (rest = [] ∧ R (.ok (.ret (.bool false))) ⟨hp, g, d, tk, os⟩))) _
    case turn =>
      rintro ⟨y, x⟩ rest b s' ⟨hb', rfl, h | h | h⟩
      · obtain ⟨hz, hR⟩ := h
        injection hz with hyx hrest
        injection hyx with hy hx
        subst hy hx hrest
        refine wpAny_bind (e1 prog w _ _ ?_)
        cases b1 with
        | true => wp_walk; exact ⟨rfl, rfl, .inr (.inl ⟨rfl, hR⟩)⟩
        | false => wp_walk using r1 prog w; exact ⟨_, rfl, hR⟩
      · obtain ⟨hz, hR⟩ := h
        injection hz with hyx hrest
        injection hyx with hy hx
        subst hy hx hrest
        refine wpAny_bind (e2 prog w _ _ ?_)
        cases b2 with
        | true => wp_walk; exact ⟨rfl, rfl, .inr (.inr ⟨rfl, hR⟩)⟩
        | false => wp_walk using r2 prog w; exact ⟨_, rfl, hR⟩
      · cases h.1
    case fin =>
      rintro ⟨b1, b2⟩ s' ⟨hb', rfl, h | h | h⟩
      · cases h.1
      · cases h.1
      · simp only at hb'
        subst hb'
        wp_walk
        exact ⟨_, rfl, h.2⟩
    case h => exact ⟨rfl, rfl, .inl ⟨rfl, h⟩⟩

noncomputable abbrev Key := Str × Int
noncomputable def klt (a b : Key) : Bool := if (a.1 == b.1) = true then (if (a.2 == b.2) = true then false else decide (a.2 < b.2)) else decide (a.1.cps.toList < b.1.cps.toList)
noncomputable def tv (k : Key) : V := .tup [.str k.1, .int k.2]
section
variable {G : Gl} {A : Around} {σ : Store} {Q : V → Store → Prop}
theorem R.key {h : Heap} {k : Key} {x : Value} (r : R G h (tv k) x) : ∃ a n t u, x = .ref a ∧ h.get? a = some { cls := .type "tuple", data := .seq #[.str k.1 t, .int k.2 u] n } := by
  cases r with
  | @tup a xs n _ ht l =>
  obtain ⟨xs⟩ := xs
  cases l with
  | cons r1 l => cases r1; cases l with
    | cons r2 l => cases r2; cases l; exact ⟨a, n, _, _, rfl, ht⟩
theorem cmp_lt {w : World} {prog : Program} {E : Value → Shared → Prop} {s : Shared} {a b : Key} {x y : Value} {P : Value → Shared → Prop} (hr : A.units < cLine) (ra : R G s.heap (tv a) x) (rb : R G s.heap (tv b) y) (h : P (.bool (klt a b)) s) : wpAny (model prog w) A (richCompare .Lt x y) P E s := by
  obtain ⟨la, n, t, u, rfl, ha⟩ := ra.key
  obtain ⟨lb, n2, t2, u2, rfl, hb⟩ := rb.key
  exact richCompare_meets_room (op := .Lt) ⟨_, ha, rfl⟩ ⟨_, hb, rfl⟩ PySem.F.slot_tuple_lt PySem.F.entry_tuple_lt (PySem.F.args_tuple_lt_2 _ _) (tuple_lt2 la lb _ _ _ _ n n2 (a.1 == b.1) (a.2 == b.2) (decide (a.1.cps.toList < b.1.cps.toList)) (decide (a.2 < b.2)))
    ⟨ha, hb, EqAt.str_str _ _ _ _, EqAt.int_int _ _ _ _, fun prog w E Q hq => PySem.P.lt_str hq, fun prog w E Q hq => lt_int hq, show Value.bool (klt a b) ≠ Value.notImplemented ∧ P (.bool (klt a b)) s from ⟨(fun x => nomatch x), h⟩⟩ hr
theorem cmp_gt {w : World} {prog : Program} {E : Value → Shared → Prop} {s : Shared} {a b : Key} {x y : Value} {P : Value → Shared → Prop} (hr : A.units < cLine) (ra : R G s.heap (tv a) x) (rb : R G s.heap (tv b) y) (h : P (.bool (klt b a)) s) : wpAny (model prog w) A (richCompare .Gt x y) P E s := by
  obtain ⟨la, n, t, u, rfl, ha⟩ := ra.key
  obtain ⟨lb, n2, t2, u2, rfl, hb⟩ := rb.key
  have h' : P (.bool (if (a.1 == b.1) = true then (if (a.2 == b.2) = true then false else decide (b.2 < a.2)) else decide (b.1.cps.toList < a.1.cps.toList))) s := by
    unfold klt at h
    rw [BEq.comm (a := b.1), BEq.comm (a := b.2)] at h
    exact h
  exact richCompare_meets_room (op := .Gt) ⟨_, ha, rfl⟩ ⟨_, hb, rfl⟩ PySem.F.slot_tuple_gt PySem.F.entry_tuple_gt (PySem.F.args_tuple_gt_2 _ _) (tuple_gt2 la lb _ _ _ _ n n2 (a.1 == b.1) (a.2 == b.2) (decide (b.1.cps.toList < a.1.cps.toList)) (decide (b.2 < a.2)))
    ⟨ha, hb, EqAt.str_str _ _ _ _, EqAt.int_int _ _ _ _, fun prog w E Q hq => PySem.P.gt_str hq, fun prog w E Q hq => gt_int hq, show _ ≠ Value.notImplemented ∧ P _ s from ⟨(fun x => nomatch x), h'⟩⟩ hr
theorem OP.ltT {a b : Key} {n : Nat} (hr : Room A n) (q : Q (.bool (klt a b)) σ) : OP G A (compareOp .Lt) (tv a) (tv b) σ Q := fun keep s x y E g rx ry =>
  cmp_lt (by have := hr.units; show A.units < 9900; (first | lia | omega)) rx ry (g.pv (tk := s.toks) (.bool _) q)
end
end
section
variable {G : Gl} {A : Around} {env : Env} {ρ : Rho} {σ : Store} {Q : V → Store → Prop} {i j : Int} {x y : Str}

/-- a part of a slice -/
noncomputable def EP (G : Gl) (A : Around) (env : Env) (e : Option Expr) (ρ : Rho) (σ : Store) (Q : Option Int → Store → Prop) : Prop := ∀ keep s E, St G keep env ρ σ s →
  wpAny (MM G) A (evalPart e env) (fun v s' => Ext G s.heap s'.heap ∧ ∃ i σ', St G keep env ρ σ' s' ∧ optv i v ∧ Q i σ') E s
theorem EP.none {Q : Option Int → Store → Prop} (q : Q none σ) : EP G A env none ρ σ Q := fun keep s E st => wpAny_pure ⟨.refl _, Option.none, σ, st, rfl, q⟩
theorem EP.some {e : Expr} {Q : Option Int → Store → Prop} (h : EV G A env e ρ σ fun v σ' => ∃ i, v = .int i ∧ Q (some i) σ') : EP G A env (some e) ρ σ Q := fun keep s E st =>
  wpAny_mono (h keep s E st) (fun x s' ⟨e, v, σ', st', r, i, hv, q⟩ => by subst hv; cases r; exact ⟨e, Option.some i, σ', st', ⟨_, rfl⟩, q⟩) fun _ _ x => x
theorem optv_up {o : Option Int} {v : Value} (h : optv o v) : optv o v := h
theorem EV.slice {l u st : Option Expr} {p : Pos} (h : EP G A env l ρ σ fun a σ₁ => EP G A env u ρ σ₁ fun b σ₂ => EP G A env st ρ σ₂ fun c σ₃ => Q (.slc a b c) σ₃) : EV G A env (.Slice l u st p) ρ σ Q := fun keep s E st =>
  wpAny_Slice (wpAny_mono (h keep s E st) (fun v1 s1 ⟨e1, a, σ1, st1, o1, h1⟩ => wpAny_mono (h1 keep s1 E st1) (fun v2 s2 ⟨e2, b, σ2, st2, o2, h2⟩ => wpAny_mono (h2 keep s2 E st2) (fun v3 s3 ⟨e3, c, σ3, st3, o3, q⟩ =>
    ⟨((e1.trans e2).trans e3).trans (Ext.push _ _), _, σ3, st3.back (st3.sg.alloc _) (Ext.push _ _), .slc (Heap.get?_push_size _ rfl) o1 o2 o3, q⟩) fun _ _ x => x) fun _ _ x => x) fun _ _ x => x)

noncomputable def vpick (vs : List V) (lo hi st : Option Int) : List V :=
  (sliceRange (sliceBounds lo hi st vs.length).1 (sliceBounds lo hi st vs.length).2.1 (sliceBounds lo hi st vs.length).2.2).filterMap (vs[·]?)
theorem RL.none {h : Heap} {vs : List V} {xs : List Value} (r : RL G h vs xs) {k : Nat} (e : vs[k]? = none) : xs[k]? = none := by
  rw [List.getElem?_eq_none_iff] at e ⊢; rw [← r.length]; exact e
theorem RL.pick {h : Heap} {vs : List V} {xs : Array Value} (r : RL G h vs xs.toList) (ks : List Nat) : RL G h (ks.filterMap (vs[·]?)) (ks.filterMap (xs[·]?)) := by
  induction ks with
  | nil => exact .nil
  | cons k ks ih =>
    cases e : vs[k]? with
    | none => have := r.none e; rw [Array.getElem?_toList] at this; rw [List.filterMap_cons_none e, List.filterMap_cons_none this]; exact ih
    | some v => obtain ⟨z, h1, h2⟩ := r.get e; rw [Array.getElem?_toList] at h1; rw [List.filterMap_cons_some e, List.filterMap_cons_some h1]; exact .cons h2 ih
theorem optv.part {o : Option Int} {v : Value} (h : optv o v) : IsPart v o := by
  cases o with
  | none => cases h; exact .none
  | some i => obtain ⟨t, rfl⟩ := h; exact .int _ _
theorem GI.listS {a : Addr} {vs : List V} {lo hi st : Option Int} (e : σ a = some (.list vs)) (h0 : st ≠ some 0) (hz : vs.length ≤ 100000) (q : ∀ b, σ b = none → Q (.ref b) (upd σ b (.list (vpick vs lo hi st)))) : GI G A (.ref a) (.slc lo hi st) σ Q := fun keep s x y E g rx ry => by
  cases rx
  cases ry with
  | slc he o1 o2 o3 =>
    obtain ⟨xs, p, l, z⟩ := g.list e
    refine ⟨"list", _, p.isList.typeIs, slot_list_getitem.lookup, wpAny_getItem_list_slice p.isList ⟨_, he, rfl, rfl⟩ o1.part o2.part o3.part h0 ?_ (by rw [z]; exact Nat.le_trans hz (by decide))⟩
    have hr : RL G s.heap (vpick vs lo hi st) (slicePick xs lo hi st).toList := by
      unfold vpick slicePick
      rw [List.toList_toArray, ← z]
      exact l.pick _
    have g' := g.newList (n := 0) hr
    exact ⟨Ext.push _ _, _, _, g', .raw _, q _ (g.hs.fresh (Heap.size_none _))⟩
theorem vpick_from {vs : List V} {n : Nat} (h : n ≤ vs.length) : vpick vs (some n) none none = vs.drop n := by
  have e : sliceBounds (some (n : Int)) none none vs.length = ((n : Int), (vs.length : Int), 1) := by
    simp only [sliceBounds, Option.getD_none]
    have h1 : ¬ ((n : Int) < 0) := by (first | lia | omega)
    simp only [h1, if_false, show (1 : Int) > 0 by decide, if_true]
    congr 1
    (first | lia | omega)
  have := pick_run vs.toArray n (vs.length - n)
  simp only [List.getElem?_toArray] at this
  unfold vpick
  rw [e]
  simp only [sliceRange_one, this]
  rw [List.take_of_length_le (by simp)]
theorem vpick_last {vs : List V} : vpick vs none (some (-1)) none = vs.dropLast := by
  cases vs with
  | nil => rfl
  | cons v vs =>
  have e : sliceBounds none (some (-1)) none (v :: vs).length = (((0 : Nat) : Int), (vs.length : Int), 1) := by
    simp only [sliceBounds, Option.getD_none]
    simp only [show (-1 : Int) < 0 by decide, if_true, show (1 : Int) > 0 by decide]
    congr 1
    congr 1
    rw [List.length_cons]; (first | lia | omega)
  have := pick_run (v :: vs).toArray 0 (vs.length - 0)
  simp only [List.getElem?_toArray] at this
  unfold vpick
  rw [e]
  simp only [sliceRange_one, this]
  rw [List.dropLast_eq_take]; simp

noncomputable def sslice (x : Str) (l u st : Option Int) : Str := if (st.getD 1 == 1 && (Builtin.Str.strSliceIndices l u (st.getD 1) x.length).length == x.length) = true then x else ⟨((Builtin.Str.strSliceIndices l u (st.getD 1) x.length).filterMap (x.cps[·]?)).toArray⟩
theorem optv.val {o : Option Int} {v : Value} (h : optv o v) : ∃ p : Option (Int × Tok), v = partValue p ∧ p.map (·.1) = o := by
  cases o with
  | none => cases h; exact ⟨none, rfl, rfl⟩
  | some i => obtain ⟨t, rfl⟩ := h; exact ⟨some (i, t), rfl, rfl⟩
set_option tactic.hygienic true in
theorem GI.strS {lo hi st : Option Int} (h0 : st ≠ some 0) (hz : (sslice x lo hi st).length ≤ 100000) (q : Q (.str (sslice x lo hi st)) σ) : GI G A (.str x) (.slc lo hi st) σ Q := fun keep s a b E g rx ry => by
  cases rx
  cases ry with
  | slc he o1 o2 o3 =>
    obtain ⟨p1, rfl, e1⟩ := o1.val
    obtain ⟨p2, rfl, e2⟩ := o2.val
    obtain ⟨p3, rfl, e3⟩ := o3.val
    refine ⟨"str", _, typeIs_str _ _ _, F.slot_str_getitem.lookup, wpAny_getItem_str_slice ⟨_, he, rfl, rfl⟩ (by
      rw [e3]; cases st with
      | none => rfl
      | some k => simp only [Option.getD_some]; rw [beq_eq_false_iff_ne]; exact fun hk => h0 (by rw [hk])) ?_⟩
    unfold sliceMade slicePicked
    rw [e1, e2, e3]
    unfold sslice at q
    split
    · next hc => rw [if_pos hc] at q; exact ⟨.refl _, _, σ, g, .str _ _, q⟩
    · next hc => rw [if_neg hc] at q; simp only [Made.post]; unfold sslice at hz; rw [if_neg hc] at hz; exact ⟨Nat.le_trans hz (by decide), g.pv (.str _ _) q⟩

theorem FN.range2 (q : Q (.rng i j) σ) : FN G A (.type "range") [.int i, .int j] σ Q := fun keep s xs E g r => by
  cases r with
  | cons r1 r => cases r1; cases r with
    | cons r2 r => cases r2; cases r; exact call_range_2 ⟨Ext.push _ _, _, _, (g.alloc _).tok, .rng (IsRange.new _ _ _ _ _ _ _), q⟩
theorem FN.range1 (q : Q (.rng 0 j) σ) : FN G A (.type "range") [.int j] σ Q := fun keep s xs E g r => by
  cases r with
  | cons r1 r => cases r1; cases r; exact call_range_1 ⟨Ext.push _ _, _, _, (g.alloc _).tok, .rng (IsRange.new _ _ _ _ _ _ _), q⟩
theorem ITV.zs {tg : Expr} {a b : Int} {K : List V → (Store → Prop) → Store → Prop} (hh : A.handled = none) (ha : 0 ≤ a) (hab : a ≤ b) (hb : b < 100000) (k : K (zseq a b) (fun _ => True) σ) : ITV G A tg (.rng a b) σ K :=
  ITV.rng hh (small_one (by (first | lia | omega)) (by (first | lia | omega)) (by (first | lia | omega)) (by (first | lia | omega))) (by rw [rangeSize_one]; split <;> (first | lia | omega)) k
theorem zseq_get {a b : Int} {k : Nat} {v : V} (h : (zseq a b)[k]? = some v) : v = .int (a + k) ∧ (k : Int) < b - a := by
  unfold zseq at h
  rw [List.getElem?_map] at h
  have hk : k < (b - a).toNat := by
    rcases Nat.lt_or_ge k (b - a).toNat with h' | h'
    · exact h'
    · rw [List.getElem?_eq_none (by simpa using h')] at h; cases h
  rw [List.getElem?_range hk] at h
  cases h
  exact ⟨rfl, by (first | lia | omega)⟩
theorem zseq_len (a b : Int) : (zseq a b).length = (b - a).toNat := by unfold zseq; simp

theorem FN.strI (hi : i.natAbs.log2 < 1920) (q : Q (.str (toString i)) σ) : FN G A (.type "str") [.int i] σ Q := fun keep s xs E g r => by
  cases r with
  | cons r1 r => cases r1; cases r; exact PySem.P.str_of_int hi (g.pv (.str _ _) q)
theorem FN.pop {a : Addr} {vs : List V} {v : V} (e : σ a = some (.list (vs ++ [v]))) (hz : vs.length ≤ 10000) (q : Q v (upd σ a (.list vs))) : FN G A (.builtin "list.pop") [.ref a] σ Q := fun keep s xs E g r => by
  cases r with
  | cons r1 r2 => cases r1; cases r2; exact (by
      obtain ⟨ys, ⟨n, p⟩, l, z⟩ := g.list e
      rw [List.length_append] at z
      have hz1 : ys.size = vs.length + 1 := z
      obtain ⟨y, hy, ry⟩ := l.get (i := vs.length) (v := v) (by simp)
      rw [Array.getElem?_toList] at hy
      have hys : ys.toList = ys.toList.take vs.length ++ [y] := by
        have h2 : ys.toList[vs.length]? = some y := by rw [Array.getElem?_toList]; exact hy
        have h3 : ys.toList.take (vs.length + 1) = ys.toList := List.take_of_length_le (by rw [Array.length_toList]; (first | lia | omega))
        conv => lhs; rw [← h3, List.take_add_one, h2]
        rfl
      refine call_meets PySem.F.slot_list_pop ⟨_, p, rfl⟩ PySem.F.entry_list_pop (PySem.F.args_list_pop_1 _) (PySem.MeetsSeq.list_pop_last a ys n y (by rw [hz1]; exact hy) (by rw [hz1]; unfold sizeLine; (first | lia | omega))) ⟨p, ?_⟩
      have hu := PySem.IsL.update p (fun xs => xs.eraseIdxIfInBounds (ys.size - 1))
      have hm : (ys.eraseIdxIfInBounds (ys.size - 1)).toList = ys.toList.take vs.length := by
        unfold Array.eraseIdxIfInBounds
        rw [dif_pos (by (first | lia | omega)), Array.toList_eraseIdx, hz1]
        have ht : (ys.toList.take vs.length).length = vs.length := by rw [List.length_take]; have h5 : ys.toList.length = vs.length + 1 := (Array.length_toList (xs := ys)).trans hz1; (first | lia | omega)
        generalize ys.toList.take vs.length = zs at *
        rw [hys, ← ht, Nat.add_sub_cancel, List.eraseIdx_append_of_length_le (Nat.le_refl _)]
        simp
      have hrl : RL G s.heap vs (ys.toList.take vs.length) := by have := l.take vs.length; rwa [List.take_left] at this
      obtain ⟨hs', he⟩ := g.hs.put (o' := .list vs) e (But.one (Heap.SameBut.update ..)) fun he => .list ⟨_, hu⟩ (by rw [hm]; exact hrl.ext he)
      exact ⟨he, _, _, ⟨g.gens, g.os, hs'⟩, ry.ext he, q⟩)
theorem GM.pop {a : Addr} {vs : List V} (e : σ a = some (.list vs)) : GM G A (.ref a) "pop" "list.pop" σ := fun keep s x pl P E g r h => by
  cases r
  obtain ⟨xs, ⟨n, p⟩, _⟩ := g.list e
  exact getMethod_builtin ⟨_, p, rfl⟩ PySem.F.plainAttrs_list PySem.F.slot_list_pop PySem.F.type_list_pop (fun a e => by cases e; exact ⟨_, p, rfl⟩) h
theorem FN.lenT {vs : List V} (hz : vs.length ≤ 10000) (q : Q (.int vs.length) σ) : FN G A (.builtin "len") [.tup vs] σ Q := fun keep s xs E g r => by
  cases r with
  | cons r1 r2 => cases r2; cases r1 with
    | tup he l =>
      have z := l.length.symm
      simp only [Array.length_toList] at z
      refine PyProof.Rows.len_tuple ⟨_, he, rfl, _, rfl⟩ (by (first | lia | omega)) ?_
      rw [z]
      exact g.pv (.int _ _) q
end
section
variable {prog : Program} {w : World} {A : Around} {E : Value → Shared → Prop} {s : Shared}
theorem nextOf_tuple {it l : Addr} {i : Nat} {items : Array Value} {x : Value} {Q : Value → Shared → Prop} (hit : s.heap.IsTupleIter it l i) (hl : s.heap.IsTuple l items) (hx : items[i]? = some x)
    (hQ : ∀ h', h'.IsTupleIter it l (i + 1) → Heap.SameBut it s.heap h' → Q x { s with heap := h' }) : wpAny (model prog w) A (Builtin.SmallTypes.nextOf (.ref it)) Q E s := by
  obtain ⟨o, ho, hc, hd⟩ := id hit
  obtain ⟨ol, hol, _, nl, hdl⟩ := hl
  unfold Builtin.SmallTypes.nextOf
  refine wpAny_bind (wpAny_callSpecial?_slot (name := Str.ofString "__next__") hit.typeIs F.slot_tuple_iterator_next (wpAny_call_entry F.slot_tuple_iterator_next hit.typeIs F.entry_tuple_iterator_next ?_ (F.args_tuple_iterator_next_1 _)))
  show wpAny _ _ (field (.ref it) 0 >>= _) _ _ s
  refine wpAny_bind (wpAny_field ho hd (x := .ref l) rfl ?_)
  show wpAny _ _ (if (Value.ref l == Value.none) = true then _ else _) _ _ s
  rw [if_neg (show ¬ ((Value.ref l == Value.none) = true) from Bool.false_ne_true)]
  show wpAny _ _ (field (.ref it) 1 >>= _) _ _ s
  refine wpAny_bind (wpAny_field ho hd (x := .int i 0) rfl ?_)
  show wpAny _ _ (seqItems? (.ref l) >>= _) _ _ s
  refine wpAny_bind (wpAny_seqItems hol hdl ?_)
  simp only [Int.toNat_natCast, hx]
  refine wpAny_bind (wpAny_setField ho hd (by simp) (wpAny_pure ⟨x, rfl, wpAny_pure (hQ _ ?_ (Heap.SameBut.update ..))⟩))
  exact ⟨_, Heap.get?_update_self _ ho (Obj.isFreed_of_fields (Obj.data_mapFields hd _)), (Obj.cls_mapFields ..).trans hc, by rw [Obj.data_mapFields hd]; simp [rawInt]⟩
theorem nextOf_tuple_end {it l : Addr} {i : Nat} {items : Array Value} {Q : Value → Shared → Prop} (hh : A.handled = none) (hit : s.heap.IsTupleIter it l i) (hl : s.heap.IsTuple l items) (hx : items[i]? = none)
    (hE : ∀ h' e, Heap.ExtBut it s.heap h' → (∃ o, h'.get? e = some o ∧ o.cls = .type "StopIteration") → E (.ref e) { s with heap := h' }) : wpAny (model prog w) A (Builtin.SmallTypes.nextOf (.ref it)) Q E s := by
  obtain ⟨o, ho, hc, hd⟩ := id hit
  obtain ⟨ol, hol, _, nl, hdl⟩ := hl
  unfold Builtin.SmallTypes.nextOf
  refine wpAny_bind (wpAny_callSpecial?_slot (name := Str.ofString "__next__") hit.typeIs F.slot_tuple_iterator_next (wpAny_call_entry F.slot_tuple_iterator_next hit.typeIs F.entry_tuple_iterator_next ?_ (F.args_tuple_iterator_next_1 _)))
  show wpAny _ _ (field (.ref it) 0 >>= _) _ _ s
  refine wpAny_bind (wpAny_field ho hd (x := .ref l) rfl ?_)
  show wpAny _ _ (if (Value.ref l == Value.none) = true then _ else _) _ _ s
  rw [if_neg (show ¬ ((Value.ref l == Value.none) = true) from Bool.false_ne_true)]
  show wpAny _ _ (field (.ref it) 1 >>= _) _ _ s
  refine wpAny_bind (wpAny_field ho hd (x := .int i 0) rfl ?_)
  show wpAny _ _ (seqItems? (.ref l) >>= _) _ _ s
  refine wpAny_bind (wpAny_seqItems hol hdl ?_)
  simp only [Int.toNat_natCast, hx]
  refine wpAny_bind (wpAny_rule (wpAny_bind (wpAny_setField ho hd (by simp) ?_)))
  show wpAny _ _ (newExc (.type "StopIteration") [] >>= _) _ _ _
  refine wpAny_bind ?_
  simp only [newExc, newTuple]
  refine wpAny_bind (wpAny_newObj_type ?_ (by size_fits))
  refine wpAny_bind (m := firstArgMember _ _) (wpAny_of_eq (a := Value.none) (by first | rfl | (simp only [firstArgMember]; rfl)) ?_)
  refine wpAny_newObj_type ?_ (by size_fits)
  simp only [raiseNew]
  refine wpAny_bind (wpAny_handled ?_)
  first | rw [show A.in1.handled = none from hh] | rw [hh]
  refine wpAny_bind (wpAny_pure (wpAny_throw ?_))
  exact hE _ _ (((Heap.SameBut.update ..).extBut.push _).push _) ⟨_, Heap.get?_push_size _ rfl, rfl⟩

/-- an inner iterator, under an enumeration -/
structure Src (prog : Program) (w : World) (A : Around) (it : Addr) (J : Nat → Heap → Prop) (n : Nat) (at_ : Nat → Heap → Value → Prop) : Prop where
  item : ∀ i (s : Shared) x (Q : Value → Shared → Prop) E, i < n → J i s.heap → at_ i s.heap x → (∀ h', J (i + 1) h' → Heap.SameBut it s.heap h' → Q x { s with heap := h' }) → wpAny (model prog w) A.in1 (Builtin.SmallTypes.nextOf (.ref it)) Q E s
  done : ∀ (s : Shared) (Q : Value → Shared → Prop) E, J n s.heap → (∀ h' e, Heap.ExtBut it s.heap h' → (∃ o, h'.get? e = some o ∧ o.cls = .type "StopIteration") → E (.ref e) { s with heap := h' }) → wpAny (model prog w) A.in1 (Builtin.SmallTypes.nextOf (.ref it)) Q E s
theorem enum_item {e it : Addr} {J : Nat → Heap → Prop} {n i : Nat} {at_ : Nat → Heap → Value → Prop} {x old : Value} {Q : Option Value → Shared → Prop} (S : Src prog w A it J n at_) (hi : i < n) (he : IsEnum s.heap e it i old) (hJ : J i s.heap) (hx : at_ i s.heap x) (hne : e ≠ it)
    (fr : ∀ h h', J (i + 1) h → (∀ b o, b ≠ e → h.get? b = some o → h'.get? b = some o) → J (i + 1) h')
    (hQ : ∀ h', IsEnumOut h' e it ((i : Int) + 1) x s.heap.objs.size → J (i + 1) h' →
      h'.get? s.heap.objs.size = some { cls := .type "tuple", data := .seq #[.int i s.toks, x] } →
      (∀ b o, b ≠ e → b ≠ it → s.heap.get? b = some o → h'.get? b = some o) → Q (some (.ref s.heap.objs.size)) { s with heap := h', toks := s.toks + 1 }) :
    wpAny (model prog w) A (pyNext (.ref e)) Q E s := by
  have hT : s.TypeIs (.ref e) "enumerate" := ⟨_, he, rfl⟩
  unfold pyNext
  refine wpAny_bind (wpAny_attempt (wpAny_callSpecial?_slot (name := Str.ofString "__next__") hT F.slot_enumerate_next (wpAny_call_entry F.slot_enumerate_next hT F.entry_enumerate_next ?_ (F.args_enumerate_next_1 _))))
  show wpAny _ _ (field (.ref e) 2 >>= _) _ _ _
  refine wpAny_bind (wpAny_field he rfl (x := .ref it) rfl ?_)
  refine wpAny_bind (S.item i s x _ _ hi hJ hx fun h1 j1 b1 => ?_)
  have e1 : IsEnum h1 e it i old := (b1.2 e hne).trans he
  show wpAny _ _ (field (.ref e) 3 >>= _) _ _ _
  refine wpAny_bind (wpAny_field (s := { s with heap := h1 }) e1 rfl (x := rawInt i) rfl ?_)
  show wpAny _ _ (field (.ref e) 4 >>= _) _ _ _
  refine wpAny_bind (wpAny_field (s := { s with heap := h1 }) e1 rfl (x := .none) rfl ?_)
  show wpAny _ _ (mkInt i >>= _) _ _ _
  refine wpAny_bind (wpAny_mkInt ?_)
  show wpAny _ _ (setField (.ref e) 3 (rawInt ((i : Int) + 1)) >>= _) _ _ _
  refine wpAny_bind (wpAny_setField_rec (s := { s with heap := h1, toks := s.toks + 1 }) e1 (by simp) fun h2 e2 b2 => ?_)
  replace e2 : IsEnum h2 e it ((i : Int) + 1) old := e2
  replace b2 : Heap.SameBut e h1 h2 := b2
  show wpAny _ _ (setField (.ref e) 4 .none >>= _) _ _ _
  refine wpAny_bind (wpAny_setField_rec (s := { s with heap := h2, toks := s.toks + 1 }) e2 (by simp) fun h3 e3 b3 => ?_)
  replace e3 : IsEnum h3 e it ((i : Int) + 1) old := e3
  replace b3 : Heap.SameBut e h2 h3 := b3
  show wpAny _ _ (newTuple [.int i s.toks, x] >>= _) _ _ _
  refine wpAny_bind (wpAny_newTuple ?_)
  have hel : e < s.heap.objs.size := Heap.lt_size he
  have sz : h3.objs.size = s.heap.objs.size := by rw [b3.1, b2.1, b1.1]
  obtain ⟨h4, eh4⟩ : ∃ h4, h3.push { cls := .type "tuple", data := .seq #[.int i s.toks, x] } = h4 := ⟨_, rfl⟩
  have e4 : IsEnum h4 e it ((i : Int) + 1) old := by rw [← eh4]; exact Heap.get?_push_of_some _ e3
  have t4 : h4.get? s.heap.objs.size = some { cls := .type "tuple", data := .seq #[.int i s.toks, x] } := by rw [← eh4, ← sz]; exact Heap.get?_push_size _ rfl
  have k4 : ∀ b o, b ≠ e → h1.get? b = some o → h4.get? b = some o := fun b o hb hq => by rw [← eh4]; exact Heap.get?_push_of_some _ (b3.extBut b o hb (b2.extBut b o hb hq))
  show wpAny _ _ (Builtin.SmallTypes.ownedTupleIsFree (.ref e) >>= _) _ _ { s with heap := h3.push { cls := .type "tuple", data := .seq #[.int i s.toks, x] }, toks := s.toks + 1 }
  rw [eh4, sz]
  refine wpAny_bind ?_
  unfold Builtin.SmallTypes.ownedTupleIsFree
  refine wpAny_bind (wpAny_field (s := { s with heap := h4, toks := s.toks + 1 }) e4 rfl (x := .none) rfl (wpAny_pure ?_))
  simp only [if_true]
  refine wpAny_bind (wpAny_rule ?_)
  refine wpAny_bind (wpAny_field (s := { s with heap := h4, toks := s.toks + 1 }) e4 rfl (x := old) rfl ?_)
  refine wpAny_bind (wpAny_setField_rec (s := { s with heap := h4, toks := s.toks + 1 }) e4 (by simp) fun h5 e5 b5 => ?_)
  replace e5 : IsEnum h5 e it ((i : Int) + 1) x := e5
  replace b5 : Heap.SameBut e h4 h5 := b5
  show wpAny _ _ (Builtin.SmallTypes.ownedTupleHandOut (.ref e) (.ref s.heap.objs.size) >>= _) _ _ { s with heap := h5, toks := s.toks + 1 }
  refine wpAny_bind ?_
  unfold Builtin.SmallTypes.ownedTupleHandOut
  refine wpAny_bind (wpAny_setField_rec (s := { s with heap := h5, toks := s.toks + 1 }) e5 (by simp) fun h6 e6 b6 => ?_)
  replace e6 : IsEnumOut h6 e it ((i : Int) + 1) x s.heap.objs.size := e6
  replace b6 : Heap.SameBut e h5 h6 := b6
  refine wpAny_setField_rec (s := { s with heap := h6, toks := s.toks + 1 }) e6 (by simp) fun h7 e7 b7 => ?_
  replace e7 : IsEnumOut h7 e it ((i : Int) + 1) x s.heap.objs.size := e7
  replace b7 : Heap.SameBut e h6 h7 := b7
  have k7 : ∀ b o, b ≠ e → h4.get? b = some o → h7.get? b = some o := fun b o hb hq => b7.extBut b o hb (b6.extBut b o hb (b5.extBut b o hb hq))
  exact wpAny_bind (wpAny_letGo (wpAny_pure ⟨_, rfl, wpAny_pure (hQ h7 e7 (fr h1 h7 j1 fun b o hb hq => k7 b o hb (k4 b o hb hq)) (k7 _ _ (Nat.ne_of_gt hel) t4) fun b o hb hb' hq => k7 b o hb (k4 b o hb (b1.extBut b o hb' hq)))⟩))
theorem enum_end {e it : Addr} {J : Nat → Heap → Prop} {n : Nat} {at_ : Nat → Heap → Value → Prop} {old : Value} {Q : Option Value → Shared → Prop} (S : Src prog w A it J n at_) (he : IsEnum s.heap e it n old) (hJ : J n s.heap)
    (hQ : ∀ h', Heap.ExtBut it s.heap h' → Q none { s with heap := h' }) : wpAny (model prog w) A (pyNext (.ref e)) Q E s := by
  have hT : s.TypeIs (.ref e) "enumerate" := ⟨_, he, rfl⟩
  unfold pyNext
  refine wpAny_bind (wpAny_attempt (wpAny_callSpecial?_slot (name := Str.ofString "__next__") hT F.slot_enumerate_next (wpAny_call_entry F.slot_enumerate_next hT F.entry_enumerate_next ?_ (F.args_enumerate_next_1 _))))
  show wpAny _ _ (field (.ref e) 2 >>= _) _ _ _
  refine wpAny_bind (wpAny_field he rfl (x := .ref it) rfl ?_)
  refine wpAny_bind (S.done s _ _ hJ fun h' x he' hx' => ?_)
  obtain ⟨o, ho, hc⟩ := hx'
  exact wpAny_bind (wpAny_isInstance (T := "StopIteration") (b := true) ⟨o, ho, hc⟩ isSubtype_stop (wpAny_pure (hQ _ he')))
end
section
variable {G : Gl} {A : Around} {env : Env} {ρ : Rho} {σ : Store} {keep : Keep} {s : Shared} {E : Value → Shared → Prop}
theorem Heap.beyond (h : Heap) {n : Nat} (hn : h.objs.size ≤ n) : h.get? n = none := by
  cases e : h.get? n with
  | none => rfl
  | some o => exact absurd (Heap.lt_size e) (Nat.not_lt.mpr hn)
noncomputable def enumV (vs : List V) : List V := vs.mapIdx fun i v => .tup [.int i, v]
theorem enumV_get {vs : List V} {i : Nat} {w : V} (h : (enumV vs)[i]? = some w) : ∃ v, vs[i]? = some v ∧ w = .tup [.int i, v] := by
  unfold enumV at h
  rw [List.getElem?_mapIdx] at h
  cases e : vs[i]? with
  | none => rw [e] at h; cases h
  | some v => rw [e] at h; cases h; exact ⟨v, rfl, rfl⟩
/-- the iterator of an enumeration -/
theorem enumIter {elts : List Expr} {k1 : Nat} {p1 : Pos} {e it : Addr} {vs : List V} {C : Store → Prop} {JJ : Nat → Heap → Prop} {Cn : Heap → Prop} {at_ : Nat → Heap → Value → Prop} (hne : e ≠ it)
    (S : Src G.prog G.w A it (fun i h => JJ i h ∧ Cn h) vs.length at_)
    (f0 : ∀ i h, JJ i h → ∃ o xs, h.get? it = some o ∧ o.data = .fields xs ∧ frz o = false)
    (f1 : ∀ i h h', JJ i h → (∀ o, h.get? it = some o → h'.get? it = some o) → JJ i h') (f2 : ∀ h h', Cn h → (∀ b o, b ≠ e → h.get? b = some o → h'.get? b = some o) → Cn h')
    (hC : ∀ keep σ (s : Shared), Sg G keep σ s → C σ → Cn s.heap ∧ ∀ i v, vs[i]? = some v → ∃ x, at_ i s.heap x ∧ R G s.heap v x) :
    Iter G A (.Tuple elts k1 p1) e [e, it] (enumV vs) C (fun i h => (∃ old, IsEnum h e it i old) ∧ JJ i h) := by
  refine ⟨?_, ?_, ?_, ?_, ?_⟩
  · rintro i h ⟨⟨old, he⟩, hj⟩ b hb
    rcases List.mem_cons.mp hb with rfl | hb
    · exact ⟨_, _, he, rfl, rfl⟩
    · rw [mem1 hb]; exact f0 i h hj
  · rintro i h h' ⟨⟨old, he⟩, hj⟩ _ hk
    exact ⟨⟨old, hk e (List.mem_cons_self ..) _ he⟩, f1 i h h' hj fun o => hk it (by simp) o⟩
  · rintro i v keep σ₁ s₁ Q E hi sg₁ hC₁ ⟨⟨old, he⟩, hj⟩ hQ
    obtain ⟨v, hv, rfl⟩ := enumV_get hi
    obtain ⟨hcn, hat⟩ := hC keep σ₁ s₁ sg₁ hC₁
    obtain ⟨x, hx, rx⟩ := hat i v hv
    refine enum_item S (List.getElem?_eq_some_iff.mp hv).1 he ⟨hj, hcn⟩ hx hne (fun h h' ⟨j1, c1⟩ kk => ⟨f1 _ _ _ j1 fun o => kk it o hne.symm, f2 _ _ c1 kk⟩) fun h' ho hj' ht hk => ⟨_, rfl, ?_⟩
    refine wpAny_letOwnedTupleGo_enum (s := { s₁ with heap := h', toks := s₁.toks + 1 }) ho fun h'' he'' sb => ?_
    have kk : But (· ∈ [e, it]) s₁.heap h'' := fun b o n q => (sb.2 b (fun z => n (by simp [z]))).trans (hk b o (fun z => n (by simp [z])) (fun z => n (by simp [z])) q)
    have hlt : s₁.heap.objs.size ≠ e := Nat.ne_of_gt (Heap.lt_size he)
    refine hQ (.ref s₁.heap.objs.size) h'' (s₁.toks + 1) kk (fun ee => .tup (xs := #[.int i s₁.toks, x]) ((sb.2 _ hlt).trans ht) (.cons (.int _ _) (.cons (rx.ext ee) .nil))) fun ee => ⟨⟨x, by simpa using he''⟩, f1 _ _ _ hj'.1 fun o q => (sb.2 it hne.symm).trans q⟩
  · rintro keep σ₁ s₁ Q E sg₁ hC₁ ⟨⟨old, he⟩, hj⟩ hQ
    have hl : (enumV vs).length = vs.length := by unfold enumV; simp
    rw [hl] at he hj
    exact enum_end S he ⟨hj, (hC keep σ₁ s₁ sg₁ hC₁).1⟩ fun h' ex => hQ h' s₁.toks fun b o n q => ex b o (fun z => n (by simp [z])) q
  · rintro i s₁ Q E ⟨⟨old, he⟩, _⟩ q
    exact wpAny_pyIter_enum he q

noncomputable def ITE (G : Gl) (A : Around) (tg : Expr) (v : V) (σ : Store) (K : List V → (Store → Prop) → Store → Prop) : Prop := ∀ keep s x E, Sg G keep σ s → R G s.heap v x →
  wpAny (MM G) A (call (.type "enumerate") [x]) (fun y s₁ => wpAny (MM G) A (pyIter y) (fun it s₂ => Ext G s.heap s₂.heap ∧ ∃ I W items C P, it = .ref I ∧ Iter G A tg I W items C P ∧ P 0 s₂.heap ∧ (∀ b ∈ W, ∀ o, ¬ keep b o) ∧ Sg G keep σ s₂ ∧ C σ ∧ K items C σ) E s₁) E s
theorem IT.enum {tg : Expr} {p pos : Pos} {e : Expr} {K : List V → (Store → Prop) → Store → Prop} (h : EL G A env pos [e] ρ σ fun vs σ' => ∃ v, vs = [v] ∧ ITE G A tg v σ' K) (hk : env.kindOf "enumerate" = some .globalImplicit := by rfl)
    (he : starEach [e] env = [(false, eval e env)] := by rfl) : IT G A env tg (.Call (.Name "enumerate" p) [e] [] pos) ρ σ K := fun keep s E st => by
  refine PyProof.Rows.Call_ (Calls.Name_function_global st.loc.kind hk (Calls.loadGlobal_builtin (by rw [st.loc.glob]; exact G.ga.keeps st.hs.H) (G.nob _ (by decide +kernel)) (by rw [st.loc.bi]; exact G.bi.keeps st.hs.H) ((G.boot "enumerate" (by decide +kernel)).trans (rfl : bootBuiltins "enumerate" = some (.type "enumerate"))) ?_) (by decide +kernel))
  refine PyProof.Rows.callWith_type1 (wpAny_mono (h keep s E st) (fun xs s₁ h₁ => ?_) fun _ _ x => x) he rfl
  obtain ⟨e₁, vs, σ₁, st₁, r₁, v, rfl, h₁⟩ := h₁
  cases r₁ with
  | cons ra r => cases r; exact (by
      refine wpAny_mono (h₁ _ s₁ _ E st₁.sg ra) (fun y s₂ h₂ => wpAny_mono h₂ (fun it s₃ h₃ => ?_) fun _ _ x => x) fun _ _ x => x
      obtain ⟨e₂, I, W, items, C, P, hI, T, hP, hW, sg₂, hC, q⟩ := h₃
      exact ⟨e₁.trans e₂, I, W, items, C, P, σ₁, hI, T, hP, fun b hb o z => hW b hb o ⟨st₁.hs.kept _ _ z, by
        cases q : σ₁ b with
        | none => rfl
        | some w => exact absurd z (st₁.hs.sep b w q o)⟩, st₁.back sg₂ e₂, hC, q⟩)
theorem ITE.list {elts : List Expr} {k1 : Nat} {p1 : Pos} {a : Addr} {vs : List V} {K : List V → (Store → Prop) → Store → Prop} (hh : A.handled = none) (hσ : σ a = some (.list vs)) (k : K (enumV vs) (fun σ => σ a = some (.list vs)) σ) : ITE G A (.Tuple elts k1 p1) (.ref a) σ K := fun keep s x E sg r => by
  cases r
  obtain ⟨xs, hp, _, _⟩ := sg.list hσ
  have ha : a < s.heap.objs.size := by obtain ⟨n, q⟩ := hp; exact Heap.lt_size q
  refine call_enumerate_list hp.isList fun h' he hi hz hk => wpAny_pyIter_enum he ?_
  have bt : But (fun _ => False) s.heap h' := But.of hk
  refine ⟨.of hk, s.heap.objs.size + 1, [s.heap.objs.size + 1, s.heap.objs.size], enumV vs, fun σ => σ a = some (.list vs), _, rfl,
    enumIter (JJ := fun i h => h.IsListIter s.heap.objs.size a i) (Cn := fun h => ∃ xs, h.IsList a xs ∧ xs.size = vs.length) (at_ := fun i h x => ∃ xs, h.IsList a xs ∧ xs[i]? = some x) (Nat.succ_ne_self _) ⟨?_, ?_⟩ ?_ ?_ ?_ ?_, ⟨⟨_, he⟩, hi⟩, ?_, ⟨sg.gens, sg.os, sg.hs.keeps bt⟩, hσ, k⟩
  · rintro i s₁ x Q E hi' ⟨hj, xs, hl, hz⟩ ⟨ys, hy, ey⟩ hQ
    exact wpAny_nextOf_list_item hj hy ey fun h' p' sb => hQ h' ⟨p', xs, hl.at fun o q => (sb.2 a (Nat.ne_of_lt ha)).trans q, hz⟩ sb
  · rintro s₁ Q E ⟨hj, xs, hl, hz⟩ hE
    exact wpAny_nextOf_list_end hh hj hl (Array.getElem?_eq_none (by (first | lia | omega))) hE
  · rintro i h ⟨o, ho, hc, hd⟩
    exact ⟨o, _, ho, hd, frz_cls hc rfl rfl⟩
  · exact fun i h h' p kk => p.at kk
  · rintro h h' ⟨xs, hl, hz⟩ kk
    exact ⟨xs, hl.at fun o q => kk a o (Nat.ne_of_lt (Nat.lt_succ_of_lt ha)) q, hz⟩
  · rintro keep σ₁ s₁ sg₁ hC
    obtain ⟨ys, hy, rl, hz⟩ := sg₁.list hC
    refine ⟨⟨ys, hy.isList, hz⟩, fun i v hv => ?_⟩
    obtain ⟨y, ey, ry⟩ := rl.get hv
    exact ⟨y, ⟨ys, hy.isList, by rw [← Array.getElem?_toList]; exact ey⟩, ry⟩
  · intro b hb
    rcases List.mem_cons.mp hb with rfl | hb
    · exact sg.hs.free (Heap.beyond _ (by (first | lia | omega)))
    · rw [mem1 hb]; exact sg.hs.free (Heap.beyond _ (by (first | lia | omega)))

set_option tactic.hygienic true in
theorem enum_new_tuple (l : Addr) (items : Array Value) (n : Nat) :
    Meets (Builtin.«enumerate.__new__» ⟨[.type "enumerate", .ref l], []⟩) (fun _ R s => s.heap.get? l = some { cls := .type "tuple", dict := none, data := .seq items n, slots := #[] } ∧
      R (.ok (.ret (.ref (s.heap.push { cls := .type "tuple_iterator", data := .fields #[.ref l, .int 0 0] }).objs.size)))
        { s with heap := (s.heap.push { cls := .type "tuple_iterator", data := .fields #[.ref l, .int 0 0] }).push { cls := .type "enumerate", data := .fields #[.none, .bool false, .ref s.heap.objs.size, rawInt 0, .none, .none] } }) :=
  .of_wp fun prog w A R s h => by
    obtain ⟨hp, g, d, tk, os⟩ := s; obtain ⟨hl, h⟩ := h
    have hsub := sub_enumerate
    have hL : Heap.IsTuple (Shared.heap ⟨hp, g, d, tk, os⟩) l items := ⟨_, hl, rfl, n, rfl⟩
    wp_walk using AutoSeq1.wpAny_loadPart' hl
    refine wpAny_stack_any fun st => wpAny_pure ?_
    split
    · rename_i c _ _ _ _ _
      cases (c == Value.type "enumerate")
      · wp_walk using AutoSeq1.wpAny_loadPart' hl, wpAny_pyIter_tuple hL
        exact ⟨_, rfl, h⟩
      · wp_walk using AutoSeq1.wpAny_loadPart' hl, wpAny_pyIter_tuple hL
        exact ⟨_, rfl, h⟩
    · wp_walk using AutoSeq1.wpAny_loadPart' hl, wpAny_pyIter_tuple hL
      exact ⟨_, rfl, h⟩
theorem ITE.tup {elts : List Expr} {k1 : Nat} {p1 : Pos} {vs : List V} {K : List V → (Store → Prop) → Store → Prop} (hh : A.handled = none) (k : K (enumV vs) (fun _ => True) σ) : ITE G A (.Tuple elts k1 p1) (.tup vs) σ K := fun keep s x E sg r => by
  cases r with
  | @tup t xs n _ ht rl =>
  have T : ∀ {h : Heap}, h.get? t = some { cls := .type "tuple", data := .seq xs n } → h.IsTuple t xs := fun e => ⟨_, e, rfl, n, rfl⟩
  have hlt : t < s.heap.objs.size := Heap.lt_size ht
  have hz : (s.heap.push { cls := .type "tuple_iterator", data := .fields #[.ref t, .int 0 0] }).objs.size = s.heap.objs.size + 1 := Heap.size_push ..
  refine callType_new F.called_enumerate (by decide) (F.typeCall_enumerate_1 _) (F.newCall_enumerate_1 _) (fun obj => F.args_object_init_2 obj _) F.entry_enumerate_new (enum_new_tuple t xs n) ⟨ht, ?_⟩
  obtain ⟨h', eh'⟩ : ∃ h', (s.heap.push { cls := .type "tuple_iterator", data := .fields #[.ref t, .int 0 0] }).push { cls := .type "enumerate", data := .fields #[.none, .bool false, .ref s.heap.objs.size, rawInt 0, .none, .none] } = h' := ⟨_, rfl⟩
  have he : IsEnum h' (s.heap.objs.size + 1) s.heap.objs.size 0 .none := by
    have := Heap.get?_push_size (s.heap.push { cls := .type "tuple_iterator", data := .fields #[.ref t, .int 0 0] }) (o := { cls := .type "enumerate", data := .fields #[.none, .bool false, .ref s.heap.objs.size, rawInt 0, .none, .none] }) rfl
    rw [hz, eh'] at this; exact this
  have hk : ∀ b o, s.heap.get? b = some o → h'.get? b = some o := fun b o q => by rw [← eh']; exact Heap.get?_push_of_some _ (Heap.get?_push_of_some _ q)
  have hi : h'.IsTupleIter s.heap.objs.size t 0 := by rw [← eh']; exact ⟨_, Heap.get?_push_of_some _ (Heap.get?_push_size _ rfl), rfl, rfl⟩
  show _ ∧ _
  rw [hz, eh']
  refine ⟨⟨_, he, rfl⟩, wpAny_pyIter_enum he ?_⟩
  have ex : Ext G s.heap h' := .of hk
  refine ⟨ex, s.heap.objs.size + 1, [s.heap.objs.size + 1, s.heap.objs.size], enumV vs, fun _ => True, fun i h => ((∃ old, IsEnum h (s.heap.objs.size + 1) s.heap.objs.size i old) ∧ h.IsTupleIter s.heap.objs.size t i) ∧ h.get? t = some { cls := .type "tuple", data := .seq xs n } ∧ RL G h vs xs.toList, rfl, ?_, ⟨⟨⟨_, he⟩, hi⟩, hk _ _ ht, rl.ext ex⟩, ?_, ⟨sg.gens, sg.os, sg.hs.keeps (But.of hk)⟩, trivial, k⟩
  · have src : Src G.prog G.w A s.heap.objs.size (fun i h => h.IsTupleIter s.heap.objs.size t i ∧ h.get? t = some { cls := .type "tuple", data := .seq xs n }) vs.length (fun i h x => xs[i]? = some x) := by
      refine ⟨?_, ?_⟩
      · rintro i s₁ x Q E hi' ⟨hj, hl⟩ ey hQ
        exact nextOf_tuple hj (T hl) ey fun h' p' sb => hQ h' ⟨p', (sb.2 t (Nat.ne_of_lt hlt)).trans hl⟩ sb
      · rintro s₁ Q E ⟨hj, hl⟩ hE
        have z := rl.length
        exact nextOf_tuple_end hh hj (T hl) (by rw [← Array.getElem?_toList]; exact List.getElem?_eq_none (by (first | lia | omega))) hE
    refine ⟨?_, ?_, ?_, ?_, ?_⟩
    · rintro i h ⟨⟨⟨old, he⟩, ⟨o, ho, hc, hd⟩⟩, _⟩ b hb
      rcases List.mem_cons.mp hb with rfl | hb
      · exact ⟨_, _, he, rfl, rfl⟩
      · rw [mem1 hb]; exact ⟨o, _, ho, hd, frz_cls hc rfl rfl⟩
    · rintro i h h' ⟨⟨⟨old, he⟩, hj⟩, ht', rl'⟩ ee hk
      exact ⟨⟨⟨old, hk _ (List.mem_cons_self ..) _ he⟩, hj.at fun o => hk _ (by simp) o⟩, ee _ _ ht' (.inl rfl), rl'.ext ee⟩
    · rintro i v keep σ₁ s₁ Q E hi sg₁ hC₁ ⟨⟨⟨old, he⟩, hj⟩, ht', rl'⟩ hQ
      obtain ⟨v, hv, rfl⟩ := enumV_get hi
      obtain ⟨y, ey, ry⟩ := rl'.get hv
      refine enum_item src (List.getElem?_eq_some_iff.mp hv).1 he ⟨hj, ht'⟩ (x := y) (by rw [← Array.getElem?_toList]; exact ey) (Nat.succ_ne_self _) (fun h h' ⟨j1, c1⟩ kk => ⟨j1.at fun o => kk _ o (Nat.succ_ne_self _).symm, kk t _ (Nat.ne_of_lt (Nat.lt_succ_of_lt hlt)) c1⟩) fun h' ho hj' ht2 hk => ⟨_, rfl, ?_⟩
      refine wpAny_letOwnedTupleGo_enum (s := { s₁ with heap := h', toks := s₁.toks + 1 }) ho fun h'' he'' sb => ?_
      have kk : But (· ∈ [s.heap.objs.size + 1, s.heap.objs.size]) s₁.heap h'' := fun b o n q => (sb.2 b (fun z => n (by simp [z]))).trans (hk b o (fun z => n (by simp [z])) (fun z => n (by simp [z])) q)
      have hlt' : s₁.heap.objs.size ≠ s.heap.objs.size + 1 := Nat.ne_of_gt (Heap.lt_size he)
      refine hQ (.ref s₁.heap.objs.size) h'' (s₁.toks + 1) kk (fun ee => .tup (xs := #[.int i s₁.toks, y]) ((sb.2 _ hlt').trans ht2) (.cons (.int _ _) (.cons (ry.ext ee) .nil))) fun ee => ⟨⟨⟨y, by simpa using he''⟩, hj'.1.at fun o q => (sb.2 _ (Nat.succ_ne_self _).symm).trans q⟩, ee _ _ ht' (.inl rfl), rl'.ext ee⟩
    · rintro keep σ₁ s₁ Q E sg₁ hC₁ ⟨⟨⟨old, he⟩, hj⟩, ht', rl'⟩ hQ
      have hl : (enumV vs).length = vs.length := by unfold enumV; simp
      rw [hl] at he hj
      exact enum_end src he ⟨hj, ht'⟩ fun h' ex => hQ h' s₁.toks fun b o n q => ex b o (fun z => n (by simp [z])) q
    · rintro i s₁ Q E ⟨⟨⟨old, he⟩, _⟩, _⟩ q
      exact wpAny_pyIter_enum he q
  · intro b hb
    rcases List.mem_cons.mp hb with rfl | hb
    · exact sg.hs.free (Heap.beyond _ (by (first | lia | omega)))
    · rw [mem1 hb]; exact sg.hs.free (Heap.beyond _ (by (first | lia | omega)))
end
section
open PySem.SeqAt
section
variable {G : Gl} {A : Around} {env : Env} {ρ : Rho} {σ : Store} {Q : V → Store → Prop} {i j : Int} {x y : Str}

/-- targets in order -/
noncomputable def AL (G : Gl) (A : Around) (env : Env) (ts : List Expr) (vs : List V) (ρ : Rho) (σ : Store) (Q : Rho → Store → Prop) : Prop := ∀ keep s xs E, St G keep env ρ σ s → RL G s.heap vs xs →
  wpAny (MM G) A (assignInOrder ((assignEach ts env).map (·.2)) xs) (fun _ s' => Ext G s.heap s'.heap ∧ ∃ ρ' σ', St G keep env ρ' σ' s' ∧ Q ρ' σ') E s
theorem AL.nil {Q : Rho → Store → Prop} (q : Q ρ σ) : AL G A env [] [] ρ σ Q := fun keep s xs E st r => by cases r; exact assignInOrder_nil ⟨.refl _, ρ, σ, st, q⟩
theorem AL.cons {t : Expr} {ts : List Expr} {v : V} {vs : List V} {Q : Rho → Store → Prop} (h : AS G A env t v ρ σ fun ρ' σ' => AL G A env ts vs ρ' σ' Q) (he : assignEach (t :: ts) env = (false, assign t env) :: assignEach ts env := by rfl) : AL G A env (t :: ts) (v :: vs) ρ σ Q := fun keep s xs E st r => by
  cases r with
  | cons rv rs =>
    rw [he]
    refine assignInOrder_cons (wpAny_mono (h keep s _ E st rv) (fun _ s₁ h₁ => ?_) fun _ _ x => x)
    obtain ⟨e₁, ρ₁, σ₁, st₁, h₁⟩ := h₁
    exact wpAny_mono (h₁ keep s₁ _ E st₁ (rs.ext e₁)) (fun _ s₂ ⟨e₂, r⟩ => ⟨e₁.trans e₂, r⟩) fun _ _ x => x
theorem AS.tup {ts : List Expr} {k : Nat} {pos : Pos} {vs : List V} {Q : Rho → Store → Prop} (hh : A.handled = none) (h : AL G A env ts vs ρ σ Q) (hn : (assignEach ts env).length = vs.length := by rfl) (hstar : (assignEach ts env).findIdx? (·.1) = none := by rfl) : AS G A env (.Tuple ts k pos) (.tup vs) ρ σ Q := fun keep s x E st r => by
  cases r with
  | tup he rl =>
    refine wpAny_assign_Tuple hh ⟨_, he, rfl, _, rfl⟩ (by rw [hn, rl.length, Array.length_toList]) hstar fun h' ex => ?_
    have kk : ∀ b o, s.heap.get? b = some o → h'.get? b = some o := fun b o q => ex b o (Nat.ne_of_lt (Heap.lt_size q)) q
    have st' : St G keep env ρ σ { s with heap := h' } := ⟨⟨st.gens, st.os, st.hs.keeps (But.of kk)⟩, st.loc.keeps (But.of kk)⟩
    exact wpAny_mono (h keep _ _ E st' (rl.ext (.of kk))) (fun _ s₂ ⟨e₂, r⟩ => ⟨(Ext.of kk).trans e₂, r⟩) fun _ _ x => x

theorem RL.size {h : Heap} {vs : List V} {xs : Array Value} (r : RL G h vs xs.toList) : xs.size = vs.length := (r.length.trans (Array.length_toList (xs := xs))).symm
noncomputable def leaf : V → Bool
  | .int _ => true
  | .str _ => true
  | _ => false
theorem leaf_eq {s : Shared} {v : V} {x y : Value} (hv : leaf v = true) (rx : R G s.heap v x) (ry : R G s.heap v y) : EqAt A s x y true := by
  cases v with
  | int i => cases rx; cases ry; have := EqAt.int_int (A := A) (s := s) i; simpa using this _ i _
  | str z => cases rx; cases ry; have := EqAt.str_str (A := A) (s := s) z; simpa using this _ z _
  | _ => cases hv
theorem leaves_eq {s : Shared} {vs : List V} {xs ys : Array Value} (hv : vs.all leaf = true) (rx : RL G s.heap vs xs.toList) (ry : RL G s.heap vs ys.toList) (j : Nat) (h1 : j < xs.size) (h2 : j < ys.size) : EqAt A s xs[j] ys[j] true := by
  have hz := rx.size
  obtain ⟨v, hv'⟩ : ∃ v, vs[j]? = some v := ⟨_, List.getElem?_eq_getElem (by (first | lia | omega))⟩
  obtain ⟨a, ha, ra⟩ := rx.get hv'
  obtain ⟨b, hb, rb⟩ := ry.get hv'
  rw [Array.getElem?_toList, Array.getElem?_eq_getElem h1] at ha
  rw [Array.getElem?_toList, Array.getElem?_eq_getElem h2] at hb
  cases ha; cases hb
  exact leaf_eq (List.all_eq_true.mp hv v (List.mem_of_getElem? hv')) ra rb
noncomputable def flat : V → Bool
  | .tup vs => vs.all leaf
  | v => leaf v
theorem all_true (n : Nat) : ((List.range n).all fun _ => true) = true := by rw [List.all_eq_true]; intros; rfl
theorem flat_eq {s : Shared} {v : V} {x y : Value} (hu : A.units + 1 < cLine) (hv : flat v = true) (rx : R G s.heap v x) (ry : R G s.heap v y) : EqAt A s x y true := by
  cases v with
  | tup vs =>
    cases rx with
    | @tup a xs n _ ha la => cases ry with
      | @tup b ys m _ hb lb =>
        by_cases hab : a = b
        · subst hab; exact EqAt.same _
        · refine EqAt.of_refs hab ?_
          have hz : xs.size = ys.size := by rw [← Array.length_toList, ← Array.length_toList, ← la.length, ← lb.length]
          have := RcAt.tuples (A := A) (e := fun _ => true) ⟨_, ha, rfl, _, rfl⟩ ⟨_, hb, rfl, _, rfl⟩ (Nat.lt_of_succ_lt hu) (leaves_eq hv la lb)
          rw [all_true, hz] at this
          simpa using this
  | int i => exact leaf_eq rfl rx ry
  | str i => exact leaf_eq rfl rx ry
  | _ => cases hv
theorem flats_eq {s : Shared} {vs : List V} {xs ys : Array Value} (hu : A.units + 1 < cLine) (hv : vs.all flat = true) (rx : RL G s.heap vs xs.toList) (ry : RL G s.heap vs ys.toList) (j : Nat) (h1 : j < xs.size) (h2 : j < ys.size) : EqAt A s xs[j] ys[j] true := by
  have hz := rx.size
  obtain ⟨v, hv'⟩ : ∃ v, vs[j]? = some v := ⟨_, List.getElem?_eq_getElem (by (first | lia | omega))⟩
  obtain ⟨a, ha, ra⟩ := rx.get hv'
  obtain ⟨b, hb, rb⟩ := ry.get hv'
  rw [Array.getElem?_toList, Array.getElem?_eq_getElem h1] at ha
  rw [Array.getElem?_toList, Array.getElem?_eq_getElem h2] at hb
  cases ha; cases hb
  exact flat_eq hu (List.all_eq_true.mp hv v (List.mem_of_getElem? hv')) ra rb
theorem OP.neT {vs : List V} {n : Nat} (hr : Room A n) (hv : vs.all leaf = true) (q : Q (.bool false) σ) : OP G A (compareOp .NotEq) (.tup vs) (.tup vs) σ Q := fun keep s x y E g rx ry => by
  cases rx with
  | tup ha la => cases ry with
    | tup hb lb =>
      have hz := la.size.trans lb.size.symm
      refine RcNeAt.tuples (e := fun _ => true) ⟨_, ha, rfl, _, rfl⟩ ⟨_, hb, rfl, _, rfl⟩ (by have := hr.units; show _ < 9900; (first | lia | omega)) (leaves_eq hv la lb) _ _ _ _ ?_
      rw [all_true, hz]
      simpa using g.pv (tk := s.toks) (.bool false) q
theorem OP.neL {a b : Addr} {vs : List V} {n : Nat} (hr : Room A n) (ha : σ a = some (.list vs)) (hb : σ b = some (.list vs)) (hv : vs.all flat = true) (q : Q (.bool false) σ) : OP G A (compareOp .NotEq) (.ref a) (.ref b) σ Q := fun keep s x y E g rx ry => by
  cases rx; cases ry
  obtain ⟨xs, px, lx, zx⟩ := g.list ha
  obtain ⟨ys, py, ly, zy⟩ := g.list hb
  refine RcNeAt.lists (e := fun _ => true) px.isList py.isList (zx.trans zy.symm) (by have := hr.units; show _ < 9900; (first | lia | omega)) (flats_eq (by have := hr.units; show _ + 1 + 1 < 9900; (first | lia | omega)) hv lx ly) _ _ _ _ ?_
  rw [all_true]
  exact g.pv (tk := s.toks) (.bool false) q
theorem OP.eqL {a b : Addr} {vs : List V} {n : Nat} (hr : Room A n) (ha : σ a = some (.list vs)) (hb : σ b = some (.list vs)) (hv : vs.all flat = true) (q : Q (.bool true) σ) : OP G A (compareOp .Eq) (.ref a) (.ref b) σ Q := fun keep s x y E g rx ry => by
  cases rx; cases ry
  obtain ⟨xs, px, lx, zx⟩ := g.list ha
  obtain ⟨ys, py, ly, zy⟩ := g.list hb
  refine RcAt.lists (e := fun _ => true) px.isList py.isList (zx.trans zy.symm) (by have := hr.units; show _ < 9900; (first | lia | omega)) (flats_eq (by have := hr.units; show _ + 1 + 1 < 9900; (first | lia | omega)) hv lx ly) _ _ _ _ ?_
  rw [all_true]
  exact g.pv (tk := s.toks) (.bool true) q

noncomputable def eqS (x : Str) : Value → Bool
  | .str z _ => z == x
  | _ => false
noncomputable def eqI (i : Int) : Value → Bool
  | .int z _ => z == i
  | _ => false
theorem RL.anyS {h : Heap} {ss : List Str} {xs : List Value} (r : RL G h (ss.map .str) xs) : xs.any (eqS x) = ss.any (· == x) ∧ ∀ y ∈ xs, ∃ z t, y = .str z t := by
  induction ss generalizing xs with
  | nil => cases r; exact ⟨rfl, fun _ h => nomatch h⟩
  | cons z ss ih => cases r with | cons a b => cases a; exact ⟨by rw [List.any_cons, List.any_cons, (ih b).1]; rfl, fun y hy => by
      cases hy with
      | head => exact ⟨_, _, rfl⟩
      | tail _ h => exact (ih b).2 y h⟩
theorem RL.anyI {h : Heap} {ss : List Int} {xs : List Value} (r : RL G h (ss.map .int) xs) : xs.any (eqI i) = ss.any (· == i) ∧ ∀ y ∈ xs, ∃ z t, y = .int z t := by
  induction ss generalizing xs with
  | nil => cases r; exact ⟨rfl, fun _ h => nomatch h⟩
  | cons z ss ih => cases r with | cons a b => cases a; exact ⟨by rw [List.any_cons, List.any_cons, (ih b).1]; rfl, fun y hy => by
      cases hy with
      | head => exact ⟨_, _, rfl⟩
      | tail _ h => exact (ih b).2 y h⟩
theorem OP.inT {ss : List Str} (q : Q (.bool (ss.any (· == x))) σ) : OP G A (compareOp .In) (.str x) (.tup (ss.map .str)) σ Q := fun keep s a b E g rx ry => by
  cases rx with
  | str _ t => cases ry with
    | tup hb lb =>
      have z := lb.anyS (x := x)
      refine in_tupleAt (eqS x) ⟨_, hb, rfl, _, rfl⟩ (fun y hy => ?_) ?_
      · obtain ⟨w, u, rfl⟩ := z.2 y (Array.mem_toList_iff.mpr hy)
        exact EqAt.str_str _ _ _ _
      · rw [← Array.any_toList, z.1]
        exact g.pv (tk := s.toks) (.bool _) q
theorem OP.inI {a : Addr} {ss : List Int} (ha : σ a = some (.list (ss.map .int))) (q : Q (.bool (ss.any (· == i))) σ) : OP G A (compareOp .In) (.int i) (.ref a) σ Q := fun keep s x y E g rx ry => by
  cases ry
  cases rx with
  | int _ t =>
    obtain ⟨xs, p, lb, _⟩ := g.list ha
    have z := lb.anyI (i := i)
    refine in_listAt (eqI i) p.isList (fun y hy => ?_) ?_
    · obtain ⟨w, u, rfl⟩ := z.2 y (Array.mem_toList_iff.mpr hy)
      exact EqAt.int_int _ _ _ _
    · rw [← Array.any_toList, z.1]
      exact g.pv (tk := s.toks) (.bool _) q
theorem OP.isNN (q : Q (.bool true) σ) : OP G A (compareOp .Is) .none .none σ Q := fun keep s a b E g rx ry => by cases rx; cases ry; exact wpAny_is_self rfl (g.pv (tk := s.toks) (.bool _) q)
theorem OP.isSN (q : Q (.bool false) σ) : OP G A (compareOp .Is) (.str x) .none σ Q := fun keep s a b E g rx ry => by cases rx; cases ry; exact wpAny_is_other rfl (fun z => nomatch z) (g.pv (tk := s.toks) (.bool _) q)
theorem OP.isntNN (q : Q (.bool false) σ) : OP G A (compareOp .IsNot) .none .none σ Q := fun keep s a b E g rx ry => by cases rx; cases ry; exact wpAny_isNot_self rfl (g.pv (tk := s.toks) (.bool _) q)
theorem OP.isBT {b : Bool} (q : Q (.bool b) σ) : OP G A (compareOp .Is) (.bool b) (.bool true) σ Q := fun keep s a c E g rx ry => by
  cases rx; cases ry; exact wpAny_is_plain rfl (g.pv (tk := s.toks) (by cases b <;> exact .bool _) q)
theorem OP.isTT {T : String} (q : Q (.bool true) σ) : OP G A (compareOp .Is) (.raw (.type T)) (.raw (.type T)) σ Q := fun keep s a c E g rx ry => by
  cases rx; cases ry; exact wpAny_is_self rfl (g.pv (tk := s.toks) (.bool _) q)

theorem FN.starts (q : Q (.bool (Txt.startswith x y)) σ) : FN G A (.builtin "str.startswith") [.str x, .str y] σ Q := fun keep s xs E g r => by
  cases r with
  | cons r1 r => cases r1; cases r with
    | cons r2 r => cases r2; cases r; exact SC.startswith (g.pv (tk := s.toks) (.bool _) q)
theorem GM.strM {name : Str} {id : String} (slot : Slot "str" name id) (ty : typeOf (.builtin id) = pure (.type "method_descriptor")) : GM G A (.str x) name id σ := fun keep s v pl P E g r h => by
  cases r
  exact PySem.GM.of _ (typeIs_str _ _ _) slot ty (fun _ e => nomatch e) h
theorem RL.strs {h : Heap} {ss : List Str} {xs : List Value} (r : RL G h (ss.map .str) xs) : StrsAre xs ss := by
  induction ss generalizing xs with
  | nil => cases r; exact .nil
  | cons z ss ih => cases r with | cons a b => cases a; exact .cons _ _ (ih b)
theorem FN.join {a : Addr} {ss : List Str} (ha : σ a = some (.list (ss.map .str))) (hok : (ss.map (·.length)).sum + ss.length * x.length ≤ 16777216) (q : Q (.str (Txt.join x ss)) σ) : FN G A (.builtin "str.join") [.str x, .ref a] σ Q := fun keep s xs E g r => by
  cases r with
  | cons r1 r => cases r1; cases r with
    | cons r2 r => cases r2; cases r; exact (by
        obtain ⟨xs, p, lb, _⟩ := g.list ha
        exact join_list p.isList lb.strs hok fun t' k => g.pv (.str _ _) q)
end
end
section
variable {G : Gl} {A : Around} {env : Env} {ρ : Rho} {σ : Store} {Q : V → Store → Prop} {i j : Int} {x y : Str} {K : Type} [DecidableEq K]

theorem vat_of {h : Heap} {kvs : List (K × V)} {ks : List (K × Value)} (e : ks.map (·.1) = kvs.map (·.1)) (r : RL G h (kvs.map (·.2)) (ks.map (·.2))) (k : K) :
    (∀ v, vat kvs k = some v → ∃ y, valueAt ks k = some y ∧ R G h v y) ∧ (vat kvs k = none → valueAt ks k = none) := by
  induction kvs generalizing ks with
  | nil => cases ks with
    | nil => exact ⟨fun v h => (nomatch h), fun _ => rfl⟩
    | cons a b => cases e
  | cons p kvs ih => cases ks with
    | nil => cases e
    | cons q ks =>
      injection e with e1 e2
      cases r with
      | cons r1 r2 =>
        have := ih e2 r2
        unfold vat valueAt at this ⊢
        replace e1 : q.1 = p.1 := e1
        rw [List.find?_cons, List.find?_cons, e1]
        by_cases hk : p.1 = k
        · simp only [hk, decide_true]
          exact ⟨fun v hv => by cases hv; exact ⟨_, rfl, r1⟩, fun hn => (nomatch hn)⟩
        · simp only [hk, decide_false]
          exact this
theorem fresh_sys {keep : Keep} {s : Shared} (g : Sg G keep σ s) {a : Addr} (h : s.heap.objs.size ≤ a) : (a == sysModules) = false := by
  obtain ⟨mc, ⟨o, _, _, ho, _⟩, _⟩ := G.dig
  have := Heap.lt_size (g.hs.H _ _ ho)
  have h2 : 2 < a := Nat.lt_of_lt_of_le this h
  rw [beq_eq_false_iff_ne]
  intro e
  rw [e] at h2
  exact absurd h2 (by decide)
theorem EV.dict0 {pos : Pos} (q : ∀ a ep, σ a = none → Q (.ref a) (upd σ a (.dicI [] ep))) : EV G A env (.Dict [] [] pos) ρ σ Q := fun keep s E st => by
  refine wpAny_Dict_empty ?_
  obtain ⟨ep, hd⟩ := (Heap.DictOf.new (knd := PySem.intKind G.prog G.w) s.heap).dictAt
  have g := st.sg
  have g' : Sg G _ (upd σ s.heap.objs.size (.dicI [] ep)) { s with heap := s.heap.push { cls := .type "dict", data := .dict #[] } } := ⟨g.gens, g.os, g.hs.add (Heap.size_none _) (But.push _ _) (.dicI (fresh_sys g (Nat.le_refl _)) hd rfl .nil)⟩
  exact ⟨Ext.push _ _, _, _, st.back g' (Ext.push _ _), .raw _, q _ _ (g.hs.fresh (Heap.size_none _))⟩
noncomputable def pdOf : V → PyData
  | .int i => .int i
  | .str s => .str s
  | _ => .none
theorem flat_rl {enc : K → PyData} (inj : ∀ a b, enc a = enc b → a = b) {kvs : List (K × V)} {ks : List (K × Value)} {D : List (PyData × PyData)} {h : Heap} (f : PyProof.V.FlatPairs enc ks D) (e : D = kvs.map fun p => (enc p.1, pdOf p.2)) (hl : kvs.all (fun p => leaf p.2) = true) : ks.map (·.1) = kvs.map (·.1) ∧ RL G h (kvs.map (·.2)) (ks.map (·.2)) := by
  induction kvs generalizing ks D with
  | nil => subst e; cases f; exact ⟨rfl, .nil⟩
  | cons p kvs ih =>
    obtain ⟨k, v⟩ := p
    subst e
    rw [List.all_cons, Bool.and_eq_true] at hl
    rw [List.map_cons] at f
    generalize hd : enc k = ek at f
    generalize hp : pdOf v = ev at f
    cases f with
    | @cons k' v' _ ks' _ fv fr =>
      obtain ⟨i1, i2⟩ := ih fr rfl hl.2
      cases inj _ _ hd
      refine ⟨by rw [List.map_cons, List.map_cons, i1], .cons ?_ i2⟩
      cases v with
      | int i => rw [← hp] at fv; obtain ⟨t, rfl⟩ := fv.int_inv; exact .int _ _
      | str i => rw [← hp] at fv; obtain ⟨t, rfl⟩ := fv.str_inv; exact .str _ _
      | _ => cases hl.1
theorem EV.dictI {pos : Pos} {keys : List (Option Expr)} {values : List Expr} (kvs : List (Int × V)) (hD : litPairs keys values = some (kvs.map fun p => (.int p.1, pdOf p.2))) (hl : kvs.all (fun p => leaf p.2) = true) (hs : intKeyed (kvs.map fun p => (.int p.1, pdOf p.2)) = true)
    (hn : (intKeysOf (kvs.map fun p => (.int p.1, pdOf p.2))).Nodup) (hk : keys.all (·.isSome) = true ∧ keys.length = values.length ∧ keys ≠ [] ∧ keys.length ≤ 15) (q : ∀ a ep, σ a = none → Q (.ref a) (upd σ a (.dicI kvs ep))) : EV G A env (.Dict keys values pos) ρ σ Q := fun keep s E st => by
  refine Dict_lits_int hD hs hn hk.1 hk.2.1 hk.2.2.1 hk.2.2.2 fun a o h₁ tk ha ho ⟨ks, hd, hf⟩ kk => ?_
  have g := st.sg
  obtain ⟨e1, e2⟩ := flat_rl (G := G) (h := h₁) (enc := PyData.int) (fun a b h => by injection h) hf rfl hl
  obtain ⟨ep, hd'⟩ := (Heap.dictOf_iff.mpr ⟨o, ho, hd⟩).dictAt
  have hnone : s.heap.get? a = none := Heap.beyond _ ha
  have g' : Sg G _ (upd σ a (.dicI kvs ep)) { s with heap := h₁, toks := tk } := ⟨g.gens, g.os, g.hs.add hnone (But.of kk) (.dicI (fresh_sys g ha) hd' e1 e2)⟩
  exact ⟨.of kk, _, _, st.back g' (.of kk), .raw _, q _ _ (g.hs.fresh hnone)⟩
theorem EV.dictS {pos : Pos} {keys : List (Option Expr)} {values : List Expr} (kvs : List (Str × V)) (hD : litPairs keys values = some (kvs.map fun p => (.str p.1, pdOf p.2))) (hl : kvs.all (fun p => leaf p.2) = true) (hs : strKeyed (kvs.map fun p => (.str p.1, pdOf p.2)) = true)
    (hn : (strKeysOf (kvs.map fun p => (.str p.1, pdOf p.2))).Nodup) (hk : keys.all (·.isSome) = true ∧ keys.length = values.length ∧ keys ≠ [] ∧ keys.length ≤ 15) (q : ∀ a, σ a = none → Q (.ref a) (upd σ a (.dicS kvs))) : EV G A env (.Dict keys values pos) ρ σ Q := fun keep s E st => by
  refine Dict_lits_str hD hs hn hk.1 hk.2.1 hk.2.2.1 hk.2.2.2 fun a o h₁ tk ha ho ⟨ks, hd, hf⟩ kk => ?_
  have g := st.sg
  obtain ⟨e1, e2⟩ := flat_rl (G := G) (h := h₁) (enc := PyData.str) (fun a b h => by injection h) hf rfl hl
  have hnone : s.heap.get? a = none := Heap.beyond _ ha
  have g' : Sg G _ (upd σ a (.dicS kvs)) { s with heap := h₁, toks := tk } := ⟨g.gens, g.os, g.hs.add hnone (But.of kk) (.dicS (fresh_sys g ha) (Heap.dictOf_iff.mpr ⟨o, ho, hd⟩) e1 e2)⟩
  exact ⟨.of kk, _, _, st.back g' (.of kk), .raw _, q _ (g.hs.fresh hnone)⟩
theorem Sg.dicI {keep : Keep} {s : Shared} (g : Sg G keep σ s) {a : Addr} {kvs : List (Int × V)} {ep : Nat} (e : σ a = some (.dicI kvs ep)) : (a == sysModules) = false ∧ ∃ ks, s.heap.DictOf (PySem.intKind G.prog G.w) a ks ∧ ks.map (·.1) = kvs.map (·.1) ∧ RL G s.heap (kvs.map (·.2)) (ks.map (·.2)) := by
  cases g.hs.rep a _ e with | dicI h1 h2 h3 h4 => exact ⟨h1, _, h2.dictOf, h3, h4⟩
theorem Sg.dicS {keep : Keep} {s : Shared} (g : Sg G keep σ s) {a : Addr} {kvs : List (Str × V)} (e : σ a = some (.dicS kvs)) : (a == sysModules) = false ∧ ∃ ks, s.heap.DictOf (PySem.strKind G.prog G.w) a ks ∧ ks.map (·.1) = kvs.map (·.1) ∧ RL G s.heap (kvs.map (·.2)) (ks.map (·.2)) := by
  cases g.hs.rep a _ e with | dicS h1 h2 h3 h4 => exact ⟨h1, _, h2, h3, h4⟩
theorem isI (i : Int) (t : Tok) : (PySem.intKind G.prog G.w).is i (.int i t) = true := by simp [PySem.intKind, Value.isInt]
theorem isS (i : Str) (t : Tok) : (PySem.strKind G.prog G.w).is i (.str i t) = true := by simp [PySem.strKind, Value.isStrOf]
theorem GI.dicI {a : Addr} {kvs : List (Int × V)} {ep : Nat} {v : V} (e : σ a = some (.dicI kvs ep)) (hv : vat kvs i = some v) (q : Q v σ) : GI G A (.ref a) (.int i) σ Q := fun keep s x y E g rx ry => by
  cases rx; cases ry
  obtain ⟨_, ks, hd, e1, rl⟩ := g.dicI e
  obtain ⟨y, hy, ry⟩ := (vat_of e1 rl i).1 v hv
  exact ⟨"dict", _, hd.typeIs, slot_dict_getitem.lookup, wpAny_getItem_of (isI i _) hd.mapOf hy (g.pv ry q)⟩
theorem GI.dicS {a : Addr} {kvs : List (Str × V)} {v : V} (e : σ a = some (.dicS kvs)) (hv : vat kvs x = some v) (q : Q v σ) : GI G A (.ref a) (.str x) σ Q := fun keep s x y E g rx ry => by
  cases rx; cases ry
  obtain ⟨_, ks, hd, e1, rl⟩ := g.dicS e
  obtain ⟨y, hy, ry⟩ := (vat_of e1 rl _).1 v hv
  exact ⟨"dict", _, hd.typeIs, slot_dict_getitem.lookup, wpAny_getItem_of (isS _ _) hd.mapOf hy (g.pv ry q)⟩
theorem OP.inD {a : Addr} {kvs : List (Str × V)} (e : σ a = some (.dicS kvs)) (q : Q (.bool (vat kvs x).isSome) σ) : OP G A (compareOp .In) (.str x) (.ref a) σ Q := fun keep s u y E g rx ry => by
  cases rx; cases ry
  obtain ⟨h1, ks, hd, e1, rl⟩ := g.dicS e
  refine wpAny_in_of (isS _ _) h1 hd.mapOf ?_
  have := vat_of e1 rl x
  cases hv : vat kvs x with
  | none => rw [this.2 hv]; rw [hv] at q; exact g.pv (.bool _) q
  | some v => obtain ⟨y, hy, _⟩ := this.1 v hv; rw [hy]; rw [hv] at q; exact g.pv (.bool _) q
theorem map_snoc {kvs : List (K × V)} {ks : List (K × Value)} {k : K} {v : V} {z : Value} {h : Heap} (e : ks.map (·.1) = kvs.map (·.1)) (r : RL G h (kvs.map (·.2)) (ks.map (·.2))) (rz : R G h v z) : (ks ++ [(k, z)]).map (·.1) = (kvs ++ [(k, v)]).map (·.1) ∧ RL G h ((kvs ++ [(k, v)]).map (·.2)) ((ks ++ [(k, z)]).map (·.2)) := by
  rw [List.map_append, List.map_append, List.map_append, List.map_append, e]
  exact ⟨rfl, r.snoc rz⟩
theorem SI.dicS {a : Addr} {kvs : List (Str × V)} {v : V} {Q : Store → Prop} (e : σ a = some (.dicS kvs)) (hz : kvs.length ≤ 10000) (hn : vat kvs x = none) (q : Q (upd σ a (.dicS (kvs ++ [(x, v)])))) : SI G A (.ref a) (.str x) v σ Q := fun keep s u y z E g rx ry rz => by
  cases rx; cases ry
  obtain ⟨h1, ks, hd, e1, rl⟩ := g.dicS e
  have hl : ks.length = kvs.length := by have := congrArg List.length e1; simpa using this
  refine wpAny_setItem_pairs (isS _ _) hd (fun h' hd' sb => ?_) (by rw [hl]; exact Nat.le_trans hz (by decide))
  rw [stored_absent ((vat_of e1 rl x).2 hn)] at hd'
  obtain ⟨hs', he⟩ := g.hs.put (o' := .dicS (kvs ++ [(x, v)])) e (But.one sb) fun he => let ⟨p1, p2⟩ := map_snoc (k := x) e1 (rl.ext he) (rz.ext he); .dicS h1 hd' p1 p2
  exact ⟨he, _, ⟨g.gens, g.os, hs'⟩, q⟩
theorem SI.dicI {a : Addr} {kvs : List (Int × V)} {ep : Nat} {v : V} {Q : Store → Prop} (e : σ a = some (.dicI kvs ep)) (hz : kvs.length ≤ 10000) (hn : vat kvs i = none) (q : ∀ ep', Q (upd σ a (.dicI (kvs ++ [(i, v)]) ep'))) : SI G A (.ref a) (.int i) v σ Q := fun keep s u y z E g rx ry rz => by
  cases rx; cases ry
  obtain ⟨h1, ks, hd, e1, rl⟩ := g.dicI e
  have hl : ks.length = kvs.length := by have := congrArg List.length e1; simpa using this
  refine wpAny_setItem_pairs (isI _ _) hd (fun h' hd' sb => ?_) (by rw [hl]; exact Nat.le_trans hz (by decide))
  rw [stored_absent ((vat_of e1 rl i).2 hn)] at hd'
  obtain ⟨ep', hd''⟩ := hd'.dictAt
  obtain ⟨hs', he⟩ := g.hs.put (o' := .dicI (kvs ++ [(i, v)]) ep') e (But.one sb) fun he => let ⟨p1, p2⟩ := map_snoc (k := i) e1 (rl.ext he) (rz.ext he); .dicI h1 hd'' p1 p2
  exact ⟨he, _, ⟨g.gens, g.os, hs'⟩, q _⟩
theorem GM.dget {a : Addr} {kvs : List (Int × V)} {ep : Nat} (e : σ a = some (.dicI kvs ep)) : GM G A (.ref a) "get" "dict.get" σ := fun keep s x pl P E g r h => by
  cases r
  obtain ⟨_, ks, hd, _⟩ := g.dicI e
  have hd' := hd
  obtain ⟨o, es, ep, ho, hx, _⟩ := hd'
  exact getMethod_builtin hd.typeIs PySem.F.plainAttrs_dict PySem.F.slot_dict_get PySem.F.type_dict_get (fun a e => by cases e; exact ⟨_, ho, hx.2.1⟩) h
theorem FN.dget {a : Addr} {kvs : List (Int × V)} {ep : Nat} {v : V} (e : σ a = some (.dicI kvs ep)) (q : Q ((vat kvs i).getD v) σ) : FN G A (.builtin "dict.get") [.ref a, .int i, v] σ Q := fun keep s xs E g r => by
  cases r with
  | cons r1 r => cases r1; cases r with
    | cons r2 r => cases r2; cases r with
      | cons r3 r => cases r; exact (by
          obtain ⟨h1, ks, hd, e1, rl⟩ := g.dicI e
          refine call_meetsIn PySem.F.slot_dict_get hd.typeIs PySem.F.entry_dict_get (PySem.F.args_dict_get_3 _ _ _) (meets_dict_get_default (PySem.intKind G.prog G.w) a (isI i _) h1 _) ⟨_, hd.mapOf, ?_⟩
          have := vat_of e1 rl i
          cases hv : vat kvs i with
          | none => rw [hv] at q; exact ⟨.refl _, _, _, g.tok, by rw [this.2 hv]; exact r3, q⟩
          | some w => obtain ⟨y, hy, ry⟩ := this.1 w hv; rw [hv] at q; exact ⟨.refl _, _, _, g.tok, by rw [hy]; exact ry, q⟩)
end
section
variable {G : Gl} {A : Around} {env : Env} {ρ : Rho} {σ : Store} {Q : V → Store → Prop}
theorem ifT {A B : Prop} (h : A) : if true = true then A else B := h
theorem ifF {A B : Prop} (h : B) : if false = true then A else B := h
theorem TR.mono {e : Expr} {Q Q' : Bool → Store → Prop} (h : TR G A env e ρ σ Q) (k : ∀ v σ', Q v σ' → Q' v σ') : TR G A env e ρ σ Q' :=
  fun keep s E st => wpAny_mono (h keep s E st) (fun _ _ ⟨e, σ', g, q⟩ => ⟨e, σ', g, k _ _ q⟩) fun _ _ x => x
noncomputable abbrev itsK (x y : Str) (Q : V → Store → Prop) : Bool → Store → Prop := fun c σ => Q (.str (if c = true then x else y)) σ
noncomputable abbrev itiK (x y : Int) (Q : V → Store → Prop) : Bool → Store → Prop := fun c σ => Q (.int (if c = true then x else y)) σ
theorem EV.iteS {t : Expr} {x y : Str} {k k' : Nat} {p p' pos : Pos} (h : TR G A env t ρ σ (itsK x y Q)) : EV G A env (.IfExp t (.Constant (.str x) k p) (.Constant (.str y) k' p') pos) ρ σ Q :=
  EV.ite (h.mono fun c σ' q => by cases c <;> exact EV.cstr q)
theorem EV.iteI {t : Expr} {x y : Int} {k k' : Nat} {p p' pos : Pos} (h : TR G A env t ρ σ (itiK x y Q)) : EV G A env (.IfExp t (.Constant (.int x) k p) (.Constant (.int y) k' p') pos) ρ σ Q :=
  EV.ite (h.mono fun c σ' q => by cases c <;> exact EV.int q)
end
section
variable {G : Gl} {A : Around} {env : Env} {ρ : Rho} {σ : Store} {Q : V → Store → Prop}
noncomputable def Sub (σ σ' : Store) : Prop := ∀ a o, σ a = some o → σ' a = some o
theorem Sub.refl (σ : Store) : Sub σ σ := fun _ _ h => h
theorem Sub.trans {σ σ' σ'' : Store} (x : Sub σ σ') (y : Sub σ' σ'') : Sub σ σ'' := fun a o h => y a o (x a o h)
theorem Sub.new {σ : Store} {a : Addr} (h : σ a = none) (o : O) : Sub σ (upd σ a o) := fun b p hb => by rw [upd_ne]; exact hb; rintro rfl; rw [h] at hb; cases hb
theorem Sub.gone {σ σ' : Store} (x : Sub σ σ') {a : Addr} (h : σ' a = none) : σ a = none := by
  cases e : σ a with
  | none => rfl
  | some o => rw [x a o e] at h; cases h
theorem Sub.put {σ σ' : Store} (x : Sub σ σ') {a : Addr} (h : σ a = none) (o : O) : Sub σ (upd σ' a o) := fun b p hb => by rw [upd_ne]; exact x b p hb; rintro rfl; rw [h] at hb; cases hb
theorem EV.one {e : Expr} {op : BoolOp} {pos : Pos} (h : EV G A env e ρ σ Q) : EV G A env (.BoolOp op [e] pos) ρ σ Q := fun keep s E st => BoolOp_one (h keep s E st)
noncomputable abbrev eva1 (G : Gl) (A : Around) (env : Env) (e : Expr) (ρ : Rho) (Q : V → Store → Prop) (v : V) : Bool → Store → Prop := fun b σ => if b = true then EV G A env e ρ σ Q else Q v σ
noncomputable abbrev evaK (G : Gl) (A : Around) (env : Env) (e : Expr) (ρ : Rho) (Q : V → Store → Prop) : V → Store → Prop := fun v σ => TV G A v σ (eva1 G A env e ρ Q v)
noncomputable abbrev evo1 (G : Gl) (A : Around) (env : Env) (e : Expr) (ρ : Rho) (Q : V → Store → Prop) (v : V) : Bool → Store → Prop := fun b σ => if b = true then Q v σ else EV G A env e ρ σ Q
noncomputable abbrev evoK (G : Gl) (A : Around) (env : Env) (e : Expr) (ρ : Rho) (Q : V → Store → Prop) : V → Store → Prop := fun v σ => TV G A v σ (evo1 G A env e ρ Q v)
theorem EV.and {e₁ e₂ : Expr} {es : List Expr} {pos : Pos} (h : EV G A env e₁ ρ σ (evaK G A env (.BoolOp .And (e₂ :: es) pos) ρ Q)) : EV G A env (.BoolOp .And (e₁ :: e₂ :: es) pos) ρ σ Q := fun keep s E st => by
  refine BoolOp_and (wpAny_mono (h keep s E st) (fun x s₁ ⟨e₁, v, σ₁, st₁, r₁, h₁⟩ => ?_) fun _ _ x => x)
  refine wpAny_mono (liftB st₁ (h₁ _ s₁ x E st₁.sg r₁)) (fun b s₂ ⟨e₂, σ₂, st₂, h₂⟩ => ?_) fun _ _ x => x
  cases b
  · exact ⟨e₁.trans e₂, v, σ₂, st₂, r₁.ext e₂, h₂⟩
  · exact wpAny_mono (h₂ keep s₂ E st₂) (fun _ _ p => (p.up e₂).up e₁) fun _ _ x => x
theorem EV.or {e₁ e₂ : Expr} {es : List Expr} {pos : Pos} (h : EV G A env e₁ ρ σ (evoK G A env (.BoolOp .Or (e₂ :: es) pos) ρ Q)) : EV G A env (.BoolOp .Or (e₁ :: e₂ :: es) pos) ρ σ Q := fun keep s E st => by
  refine BoolOp_or (wpAny_mono (h keep s E st) (fun x s₁ ⟨e₁, v, σ₁, st₁, r₁, h₁⟩ => ?_) fun _ _ x => x)
  refine wpAny_mono (liftB st₁ (h₁ _ s₁ x E st₁.sg r₁)) (fun b s₂ ⟨e₂, σ₂, st₂, h₂⟩ => ?_) fun _ _ x => x
  cases b
  · exact wpAny_mono (h₂ keep s₂ E st₂) (fun _ _ p => (p.up e₂).up e₁) fun _ _ x => x
  · exact ⟨e₁.trans e₂, v, σ₂, st₂, r₁.ext e₂, h₂⟩
end
section
variable {N : Nat} {key : Nat → Int} {cmp : Nat → Nat → (Bool → Shared → Prop) → Shared → Prop} {s : Shared} {p : Array Nat}
noncomputable def Ok (N : Nat) (p : Array Nat) : Prop := p.toList.Perm (List.range N)
noncomputable def kp (key : Nat → Int) (p : Array Nat) (i : Nat) : Int := key (p.getD i 0)
noncomputable def Srt (key : Nat → Int) (p : Array Nat) (n : Nat) : Prop := ∀ i j, i < j → j < n → kp key p i < kp key p j
noncomputable def Dsc (key : Nat → Int) (p : Array Nat) (n : Nat) : Prop := ∀ i j, i < j → j < n → kp key p j < kp key p i
structure Cm (N : Nat) (key : Nat → Int) (cmp : Nat → Nat → (Bool → Shared → Prop) → Shared → Prop) (s : Shared) : Prop where
  go : ∀ i j (C : Bool → Shared → Prop), i < N → j < N → i ≠ j → C (decide (key i < key j)) s → cmp i j C s
  inj : ∀ i j, i < N → j < N → key i = key j → i = j
theorem Ok.size (h : Ok N p) : p.size = N := by have := h.length_eq; simpa using this
theorem Ok.at (h : Ok N p) {i : Nat} (hi : i < N) : p[i]? = some (p.getD i 0) ∧ p.getD i 0 < N := by
  have hs := h.size
  have e : p[i]? = some (p.getD i 0) := by rw [Array.getElem?_eq_getElem (by (first | lia | omega))]; simp [Array.getD, hs, hi]
  refine ⟨e, ?_⟩
  have : p.getD i 0 ∈ p.toList := by rw [Array.mem_toList_iff]; exact Array.mem_of_getElem? e
  exact List.mem_range.mp (h.mem_iff.mp this)
theorem Ok.ne (h : Ok N p) {i j : Nat} (hi : i < N) (hj : j < N) (hij : i ≠ j) : p.getD i 0 ≠ p.getD j 0 := by
  intro e
  have nd : p.toList.Nodup := h.nodup_iff.mpr List.nodup_range
  have hs := h.size
  have e1 := (h.at hi).1
  have e2 := (h.at hj).1
  rw [← Array.getElem?_toList] at e1 e2
  have hl : i < p.toList.length := by rw [Array.length_toList]; (first | lia | omega)
  exact hij ((List.getElem?_inj hl nd).mp (by rw [e1, e2, e]))
theorem Ok.ask (h : Ok N p) (c : Cm N key cmp s) {i j : Nat} (hi : i < N) (hj : j < N) (hij : i ≠ j) {C : Bool → Shared → Prop} (h1 : kp key p i < kp key p j → C true s) (h2 : kp key p j < kp key p i → C false s) : cmp (p.getD i 0) (p.getD j 0) C s := by
  refine c.go _ _ C (h.at hi).2 (h.at hj).2 (h.ne hi hj hij) ?_
  show C (decide (kp key p i < kp key p j)) s
  by_cases hk : kp key p i < kp key p j
  · rw [decide_eq_true hk]; exact h1 hk
  · have : kp key p i ≠ kp key p j := fun e => h.ne hi hj hij (c.inj _ _ (h.at hi).2 (h.at hj).2 e)
    rw [decide_eq_false hk]; exact h2 (by (first | lia | omega))
theorem kas_asc_ok (h : Ok N p) (c : Cm N key cmp s) : ∀ (f n : Nat) {Q : Nat → Shared → Prop}, 1 ≤ n → n + f ≤ N → Srt key p n → (∀ m, n ≤ m → m ≤ n + f → Srt key p m → (m = n + f ∨ kp key p m < kp key p (m - 1)) → Q m s) → (kas_asc p f n).kasWp cmp Q s := by
  intro f
  induction f with
  | zero => intro n Q h1 hn hs q; exact q n (Nat.le_refl _) (Nat.le_refl _) hs (.inl rfl)
  | succ f ih =>
    intro n Q h1 hn hs q
    show cmp _ _ _ s
    refine h.ask c (by (first | lia | omega)) (by (first | lia | omega)) (by (first | lia | omega)) (fun hk => q n (Nat.le_refl _) (by (first | lia | omega)) hs (.inr hk)) fun hk => ?_
    refine ih (n + 1) (by (first | lia | omega)) (by (first | lia | omega)) (fun i j hij hj => ?_) fun m m1 m2 m3 m4 => q m (by (first | lia | omega)) (by (first | lia | omega)) m3 (m4.imp (by (first | lia | omega)) id)
    rcases Nat.lt_or_ge j n with hjn | hjn
    · exact hs i j hij hjn
    · have : j = n := by (first | lia | omega)
      subst this
      rcases Nat.lt_or_ge i (j - 1) with hi | hi
      · exact Int.lt_trans (hs i (j - 1) hi (by (first | lia | omega))) hk
      · have : i = j - 1 := by (first | lia | omega)
        subst this; exact hk
theorem kas_desc_ok (h : Ok N p) (c : Cm N key cmp s) : ∀ (f n : Nat) {Q : Array Nat × Nat × Nat → Shared → Prop}, 1 ≤ n → n + f ≤ N → Dsc key p n → (∀ m, n ≤ m → m ≤ n + f → Dsc key p m → Q (p, m, 0) s) → (kas_desc f p n 0).kasWp cmp Q s := by
  intro f
  induction f with
  | zero => intro n Q h1 hn hs q; exact q n (Nat.le_refl _) (Nat.le_refl _) hs
  | succ f ih =>
    intro n Q h1 hn hs q
    show cmp _ _ _ s
    refine h.ask c (by (first | lia | omega)) (by (first | lia | omega)) (by (first | lia | omega)) (fun hk => ?_) fun hk => ?_
    · refine ih (n + 1) (by (first | lia | omega)) (by (first | lia | omega)) (fun i j hij hj => ?_) fun m m1 m2 m3 => q m (by (first | lia | omega)) (by (first | lia | omega)) m3
      rcases Nat.lt_or_ge j n with hjn | hjn
      · exact hs i j hij hjn
      · have : j = n := by (first | lia | omega)
        subst this
        rcases Nat.lt_or_ge i (j - 1) with hi | hi
        · exact Int.lt_trans hk (hs i (j - 1) hi (by (first | lia | omega)))
        · have : i = j - 1 := by (first | lia | omega)
          subst this; exact hk
    · show cmp _ _ _ s
      refine h.ask c (by (first | lia | omega)) (by (first | lia | omega)) (by (first | lia | omega)) (fun hk' => ?_) fun hk' => ?_
      · exact q n (Nat.le_refl _) (by (first | lia | omega)) hs
      · exact absurd hk (by (first | lia | omega))
theorem getD_of {q : Array Nat} {i j : Nat} (e : q[i]? = p[j]?) : q.getD i 0 = p.getD j 0 := by
  rw [Array.getD_eq_getD_getElem?, Array.getD_eq_getD_getElem?, e]
theorem rev_ok (h : Ok N p) {n : Nat} (hn : n ≤ N) (hd : Dsc key p n) : Ok N (kas_rev p 0 n) ∧ Srt key (kas_rev p 0 n) n := by
  refine ⟨(Array.perm_iff_toList_perm.mp (mirror_perm ..)).trans h, fun i j hij hj => ?_⟩
  have hs := h.size
  unfold kp kas_rev
  rw [getD_of ((getElem?_mirror_all (i := 0) (j := n) (by (first | lia | omega)) i).trans (if_pos (by (first | lia | omega)))), getD_of ((getElem?_mirror_all (i := 0) (j := n) (by (first | lia | omega)) j).trans (if_pos (by (first | lia | omega))))]
  exact hd _ _ (by (first | lia | omega)) (by (first | lia | omega))
theorem kas_tail_ok (h : Ok N p) (c : Cm N key cmp s) {n : Nat} {Q : Nat × Array Nat → Shared → Prop} (h1 : 1 ≤ n) (hn : n ≤ N) (hd : Dsc key p n) (q : ∀ m p', Ok N p' → 1 ≤ m → m ≤ N → Srt key p' m → Q (m, p') s) : (kas_tail3 n N p).kasWp cmp Q s := by
  unfold kas_tail3
  rw [KasT.kasWp_bind]
  obtain ⟨o, so⟩ := rev_ok h hn hd
  exact kas_asc_ok o c _ n h1 (by (first | lia | omega)) so fun m m1 m2 m3 _ => q m _ o (by (first | lia | omega)) (by (first | lia | omega)) m3
theorem kas_count_ok (h : Ok N p) (c : Cm N key cmp s) {Q : Nat × Array Nat → Shared → Prop} (h1 : 2 ≤ N) (q : ∀ m p', Ok N p' → 1 ≤ m → m ≤ N → Srt key p' m → Q (m, p') s) : (kas_count N p).kasWp cmp Q s := by
  unfold kas_count
  rw [KasT.kasWp_bind]
  refine kas_asc_ok h c (N - 1) 1 (Nat.le_refl _) (by (first | lia | omega)) (fun i j hij hj => by (first | lia | omega)) fun m m1 m2 m3 m4 => ?_
  by_cases e : (m == N) = true
  · rw [if_pos e]; exact q m p h m1 (by (first | lia | omega)) m3
  · rw [if_neg e]
    have hne : m ≠ N := fun z => e (by rw [z]; exact beq_self_eq_true N)
    by_cases hm : m > 1
    · rw [if_pos hm]
      show cmp _ _ _ s
      refine h.ask c (by (first | lia | omega)) (by (first | lia | omega)) (by (first | lia | omega)) (fun hk => q m p h m1 (by (first | lia | omega)) m3) fun hk => ?_
      exact absurd (m3 0 (m - 1) (by (first | lia | omega)) (by (first | lia | omega))) (by (first | lia | omega))
    · rw [if_neg hm]
      have : m = 1 := by (first | lia | omega)
      subst this
      have hk : kp key p 1 < kp key p 0 := m4.resolve_left (by (first | lia | omega))
      unfold kas_descPart
      rw [KasT.kasWp_bind]
      refine kas_desc_ok h c _ 2 (by (first | lia | omega)) (by (first | lia | omega)) (fun i j hij hj => ?_) fun n n1 n2 n3 => ?_
      · have : i = 0 := by (first | lia | omega)
        have : j = 1 := by (first | lia | omega)
        subst i j; exact hk
      · rw [if_neg (Nat.lt_irrefl 0)]
        exact kas_tail_ok h c (show 1 ≤ n by (first | lia | omega)) (show n ≤ N by (first | lia | omega)) n3 q
theorem kas_place_ok (h : Ok N p) (c : Cm N key cmp s) {k : Nat} (hk : k < N) : ∀ (f l r : Nat) {Q : Nat → Shared → Prop}, l ≤ r → r ≤ k → r - l ≤ f → (∀ i, i < l → kp key p i < kp key p k) → (∀ i, r ≤ i → i < k → kp key p k < kp key p i) → Srt key p k →
    (∀ l, l ≤ k → (∀ i, i < l → kp key p i < kp key p k) → (∀ i, l ≤ i → i < k → kp key p k < kp key p i) → Q l s) → (kas_place p k f l r).kasWp cmp Q s := by
  intro f
  induction f with
  | zero => intro l r Q h1 h2 h3 a b _ q; obtain rfl : l = r := (by (first | lia | omega)); exact q l h2 a b
  | succ f ih =>
    intro l r Q h1 h2 h3 a b hs q
    rw [kas_place]
    by_cases hlr : l ≥ r
    · rw [if_pos hlr]; obtain rfl : l = r := (by (first | lia | omega)); exact q l h2 a b
    · rw [if_neg hlr]
      show cmp _ _ _ s
      refine h.ask c hk (by (first | lia | omega)) (by (first | lia | omega)) (fun hc => ?_) fun hc => ?_
      · refine ih l ((l + r) / 2) (by (first | lia | omega)) (by (first | lia | omega)) (by (first | lia | omega)) a (fun i i1 i2 => ?_) hs q
        rcases Nat.lt_or_ge ((l + r) / 2) i with h' | h'
        · exact Int.lt_trans hc (hs _ _ h' i2)
        · have : i = (l + r) / 2 := by (first | lia | omega)
          subst this; exact hc
      · refine ih ((l + r) / 2 + 1) r (by (first | lia | omega)) (by (first | lia | omega)) (by (first | lia | omega)) (fun i i1 => ?_) b hs q
        rcases Nat.lt_or_ge i ((l + r) / 2) with h' | h'
        · exact Int.lt_trans (hs _ _ h' (by (first | lia | omega))) hc
        · have : i = (l + r) / 2 := by (first | lia | omega)
          subst this; exact hc
set_option tactic.hygienic true in
theorem bub_ok (h : Ok N p) {k l : Nat} (hk : k < N) (hl : l ≤ k) (hs : Srt key p k) (a : ∀ i, i < l → kp key p i < kp key p k) (b : ∀ i, l ≤ i → i < k → kp key p k < kp key p i) : Ok N (bubble p k (k - l)) ∧ Srt key (bubble p k (k - l)) (k + 1) := by
  refine ⟨(Array.perm_iff_toList_perm.mp (bubble_perm ..)).trans h, ?_⟩
  have hz := h.size
  have g : ∀ i, kp key (bubble p k (k - l)) i = if i = l then kp key p k else if l < i ∧ i ≤ k then kp key p (i - 1) else kp key p i := by
    intro i
    unfold kp
    have e := getElem?_bubble (xs := p) (src := k) (by (first | lia | omega)) (k - l) (by (first | lia | omega)) i
    rw [show k - (k - l) = l by (first | lia | omega)] at e
    split
    · next h1 => rw [if_pos h1] at e; rw [getD_of e]
    · next h1 =>
      rw [if_neg h1] at e
      split
      · next h2 => rw [if_pos h2] at e; rw [getD_of e]
      · next h2 => rw [if_neg h2] at e; rw [getD_of e]
  intro i j hij hj
  rw [g, g]
  repeat' split
  all_goals first
    | (exfalso; (first | lia | omega))
    | exact a _ (by (first | lia | omega))
    | exact b _ (by (first | lia | omega)) (by (first | lia | omega))
    | exact hs _ _ (by (first | lia | omega)) (by (first | lia | omega))
theorem kas_bin_ok (c : Cm N key cmp s) : ∀ (f : Nat) (p : Array Nat) (k : Nat) {Q : Array Nat → Shared → Prop}, Ok N p → Srt key p k → k + f = N → (∀ p', Ok N p' → Srt key p' N → Q p' s) → (kas_bin f p k).kasWp cmp Q s := by
  intro f
  induction f with
  | zero => intro p k Q h hs hk q; obtain rfl : k = N := (by (first | lia | omega)); exact q p h hs
  | succ f ih =>
    intro p k Q h hs hk q
    rw [kas_bin, KasT.kasWp_bind]
    refine kas_place_ok h c (by (first | lia | omega)) k 0 k (by (first | lia | omega)) (Nat.le_refl _) (by (first | lia | omega)) (fun i hi => by (first | lia | omega)) (fun i i1 i2 => by (first | lia | omega)) hs fun l hl a b => ?_
    obtain ⟨o, so⟩ := bub_ok h (by (first | lia | omega)) hl hs a b
    exact ih _ (k + 1) o so (by (first | lia | omega)) q
theorem kas_sort_ok (c : Cm N key cmp s) (h2 : 2 ≤ N) {Q : Array Nat → Shared → Prop} (q : ∀ p', Ok N p' → Srt key p' N → Q p' s) : (kas_sort N).kasWp cmp Q s := by
  unfold kas_sort
  rw [KasT.kasWp_bind]
  have o : Ok N (List.toArray (List.range N)) := by unfold Ok; simp
  refine kas_count_ok o c h2 fun m p' o' m1 m2 ms => ?_
  by_cases hm : m < N
  · rw [if_pos hm]
    refine kas_bin_ok c _ p' _ o' ?_ (by (first | lia | omega)) q
    rw [show max m 1 = m by (first | lia | omega)]; exact ms
  · rw [if_neg hm]
    have : m = N := by (first | lia | omega)
    subst this
    exact q p' o' ms
end
section
variable {prog : Program} {w : World} {A : Around} {E : Value → Shared → Prop} {s : Shared}
/-- the pairs of numbers that are sorted -/
noncomputable def PairsAt (h : Heap) (vs : List Value) (ps : List (Int × Int)) : Prop := vs.length = ps.length ∧ ∀ (i : Nat) (v : Value) (p : Int × Int), vs[i]? = some v → ps[i]? = some p → ∃ a n t u, v = Value.ref a ∧ h.get? a = some { cls := .type "tuple", data := .seq #[.int p.1 t, .int p.2 u] n }
theorem PairsAt.keep {h h' : Heap} {vs : List Value} {ps : List (Int × Int)} (x : PairsAt h vs ps) (k : ∀ b o, h.get? b = some o → frz o = true → h'.get? b = some o) : PairsAt h' vs ps :=
  ⟨x.1, fun i v p hv hp => by obtain ⟨a, n, t, u, e, g⟩ := x.2 i v p hv hp; exact ⟨a, n, t, u, e, k _ _ g rfl⟩⟩
noncomputable def ky (ps : List (Int × Int)) (i : Nat) : Int := (ps.getD i (0, 0)).1
theorem PairsAt.at {h : Heap} {vs : List Value} {ps : List (Int × Int)} (x : PairsAt h vs ps) {i : Nat} (hi : i < vs.length) : ∃ a n t u y, vs.getD i Value.none = Value.ref a ∧ h.get? a = some { cls := .type "tuple", data := .seq #[.int (ky ps i) t, .int y u] n } := by
  have h1 : vs[i]? = some (vs.getD i Value.none) := by rw [List.getD_eq_getElem?_getD, List.getElem?_eq_getElem hi]; rfl
  have h2 : ps[i]? = some (ps.getD i (0, 0)) := by rw [List.getD_eq_getElem?_getD, List.getElem?_eq_getElem (x.1 ▸ hi)]; rfl
  obtain ⟨a, n, t, u, e, g⟩ := x.2 i _ _ h1 h2
  exact ⟨a, n, t, u, _, e, g⟩
theorem PairsAt.cm {vs : List Value} {ps : List (Int × Int)} (x : PairsAt s.heap vs ps) (nd : (ps.map (·.1)).Nodup) : Cm vs.length (ky ps) (kas_ask prog w A (tuples' true) vs) s := by
  have inj : ∀ i j, i < vs.length → j < vs.length → ky ps i = ky ps j → i = j := by
    intro i j hi hj e
    have e1 : (ps.map (·.1))[i]? = some (ky ps i) := by rw [List.getElem?_map, List.getElem?_eq_getElem (x.1 ▸ hi)]; unfold ky; rw [List.getD_eq_getElem?_getD, List.getElem?_eq_getElem (x.1 ▸ hi)]; rfl
    have e2 : (ps.map (·.1))[j]? = some (ky ps j) := by rw [List.getElem?_map, List.getElem?_eq_getElem (x.1 ▸ hj)]; unfold ky; rw [List.getD_eq_getElem?_getD, List.getElem?_eq_getElem (x.1 ▸ hj)]; rfl
    exact (List.getElem?_inj (by rw [List.length_map]; exact x.1 ▸ hi) nd).mp (by rw [e1, e2, e])
  refine ⟨fun i j C hi hj hij hC => ?_, inj⟩
  obtain ⟨a, n, t, u, y, e, g⟩ := x.at hi
  obtain ⟨b, m, t', u', z, e', g'⟩ := x.at hj
  unfold kas_ask
  rw [e, e']
  refine kat_lt g rfl g' rfl ?_
  show wpAny _ _ (eqBool _ _) _ _ _
  refine wpAny_eqBool_int ?_
  rw [beq_eq_false_iff_ne.mpr fun z => hij (inj i j hi hj z), if_neg Bool.false_ne_true]
  exact oneLt_int hC
theorem PairsAt.kind {vs : List Value} {ps : List (Int × Int)} (x : PairsAt s.heap vs ps) (hne : 0 < vs.length) {Q : SortKind → Shared → Prop} (q : Q (tuples' true) s) : wpAny (model prog w) A (keyKind' vs.toArray) Q E s := by
  have key : ∀ {vs : List Value} {ps : List (Int × Int)}, PairsAt s.heap vs ps → ∃ fs : List Value, fs.length = vs.length ∧ KatTups s.heap vs fs ∧ ∀ v ∈ fs, ∃ i t, v = Value.int i t := by
    intro vs
    induction vs with
    | nil => intro ps x; exact ⟨[], rfl, trivial, fun _ h => nomatch h⟩
    | cons v vs ih =>
      intro ps x
      cases ps with
      | nil => cases x.1
      | cons p ps =>
        obtain ⟨fs, f1, f2, f3⟩ := ih (ps := ps) ⟨by have := x.1; simpa using this, fun i v p hv hp => x.2 (i + 1) v p hv hp⟩
        obtain ⟨a, n, t, u, rfl, g⟩ := x.2 0 v p rfl rfl
        refine ⟨.int p.1 t :: fs, by simp [f1], KatTups.cons g rfl rfl rfl f2, fun v hv => ?_⟩
        cases hv with
        | head => exact ⟨_, _, rfl⟩
        | tail _ h => exact f3 v h
  obtain ⟨fs, f1, f2, f3⟩ := key x
  refine kat_kind (T := .type "int") f2 (by (first | lia | omega)) (fun v hv => ?_) (by decide) q
  obtain ⟨i, t, rfl⟩ := f3 v hv
  exact Looks.of_pure rfl
theorem sort_pairs {a : Addr} {vs : List Value} {ps : List (Int × Int)} {n : Nat} {P : PySem.Fin → Shared → Prop} (ho : s.heap.get? a = some (seqObj "list" vs.toArray n)) (x : PairsAt s.heap vs ps) (nd : (ps.map (·.1)).Nodup) (h64 : vs.length < 64)
    (h : ∀ p : Array Nat, Ok vs.length p → Srt (ky ps) p vs.length → P (.done (.ret .none)) { s with heap := sortedHeap s.heap a vs (List.toArray (p.toList.map fun i => vs.getD i Value.none)) }) :
    wpAny (model prog w) A (Builtin.«list.sort» ⟨[.ref a], []⟩) P E s := by
  rw [list_sort_plain]
  have ha : a < s.heap.objs.size := Heap.lt_size ho
  refine wpAny_bind (listItems_at ho rfl ?_)
  refine wpAny_bind (listUpdate_at ho rfl ?_ (by rw [List.size_toArray, sizeLine_eq]; (first | lia | omega)) (Nat.zero_le _))
  obtain ⟨e1, ho1⟩ : ∃ e1, (s.heap.update a (Obj.mapSeq fun _ => #[])).get? a = some (seqObj "list" #[] e1) := ⟨_, get?_update_seq ho (fun _ => #[])⟩
  refine wpAny_bind (seqEpoch_at ho1 rfl ?_)
  refine wpAny_bind (wpAny_newTuple ?_ (by show vs.length ≤ _; rw [sizeLine_eq]; (first | lia | omega)))
  refine wpAny_bind (wpAny_newList ?_ (Nat.zero_le _))
  refine wpAny_holding ?_
  have ho6 : (((s.heap.update a (Obj.mapSeq fun _ => #[])).push (seqObj "tuple" vs.toArray 0)).push (seqObj "list" #[] 0)).get? a = some (seqObj "list" #[] e1) := by
    rw [Heap.get?_push_ne _ _ _ (by rw [size_push', Heap.size_update]; exact Nat.ne_of_lt (Nat.lt_succ_of_lt ha)), Heap.get?_push_ne _ _ _ (by rw [Heap.size_update]; exact Nat.ne_of_lt ha)]
    exact ho1
  have x6 : PairsAt (((s.heap.update a (Obj.mapSeq fun _ => #[])).push (seqObj "tuple" vs.toArray 0)).push (seqObj "list" #[] 0)) vs ps := x.keep fun b o e f => Heap.get?_push_of_some _ (Heap.get?_push_of_some _ ((Heap.get?_update_ne _ _ _ _ (fun z => by subst z; rw [ho] at e; cases e; cases f)).trans e))
  show wpAny (model prog w) A _ P E { s with heap := ((s.heap.update a (Obj.mapSeq fun _ => #[])).push (seqObj "tuple" vs.toArray 0)).push (seqObj "list" #[] 0) }
  dsimp only
  have hsz : vs.toArray.size = vs.length := by simp
  by_cases h2 : vs.toArray.size < 2
  · rw [if_pos h2, if_pos h2]
    refine wpAny_bind (wpAny_pure ?_)
    rw [StateT.run_pure]
    refine wpAny_bind (wpAny_pure ?_)
    have har : (arrOf (SortSt.mk' general' (vs.toArray.zip vs.toArray) #[] 7 none)).map (·.2) = List.toArray ((List.toArray (List.range vs.length)).toList.map fun i => vs.getD i Value.none) := ?_
    dsimp only
    rw [har]
    have o : Ok vs.length (List.toArray (List.range vs.length)) := by unfold Ok; simp
    have so : Srt (ky ps) (List.toArray (List.range vs.length)) vs.length := fun i j hij hj => by (first | lia | omega)
    have hf : failedOf (SortSt.mk' general' (vs.toArray.zip vs.toArray) #[] 7 none) = none := rfl
    obtain ⟨p, ep⟩ : ∃ p, p = List.toArray (List.range vs.length) := ⟨_, rfl⟩
    rw [← ep] at o so ⊢
    refine wpAny_bind (seqEpoch_at ho6 rfl ?_)
    refine wpAny_bind (listUpdate_at ho6 rfl ?_ (Nat.zero_le _) (by rw [List.size_toArray, List.length_map, Array.length_toList, o.size, sizeLine_eq]; (first | lia | omega)))
    simp only [bne_self_eq_false, Bool.false_eq_true, if_false]
    exact wpAny_pure (h p o so)
    show (vs.toArray.zip vs.toArray).map (·.2) = _
    apply Array.toList_inj.mp
    apply List.ext_getElem?
    intro k
    simp only [Array.toList_map, Array.toList_zip, List.getElem?_map, List.toList_toArray]
    by_cases hk : k < vs.length
    · simp [hk]
    · simp [hk]
  · rw [if_neg h2, if_neg h2]
    refine wpAny_bind (x6.kind (by (first | lia | omega)) ?_)
    refine wpAny_bind (wpAny_mono (kat_run (κ := tuples' true) (ks := vs) (vs := vs) (Q := fun st' s' => s' = { s with heap := ((s.heap.update a (Obj.mapSeq fun _ => #[])).push (seqObj "tuple" vs.toArray 0)).push (seqObj "list" #[] 0) } ∧ ∃ p : Array Nat, Ok vs.length p ∧ Srt (ky ps) p vs.length ∧ arrOf st' = p.map (kas_item (vs.toArray.zip vs.toArray)) ∧ failedOf st' = none)
      (G := fun p s' => s' = { s with heap := ((s.heap.update a (Obj.mapSeq fun _ => #[])).push (seqObj "tuple" vs.toArray 0)).push (seqObj "list" #[] 0) } ∧ Ok vs.length p ∧ Srt (ky ps) p vs.length) rfl (by (first | lia | omega)) h64
      (fun p st' s' _ a1 a2 a3 => ⟨a3.1, p, a3.2.1, a3.2.2, a1, a2⟩) (kas_sort_ok (x6.cm nd) (by (first | lia | omega)) fun p' o so => ⟨rfl, o, so⟩)) ?_ fun _ _ e => e)
    rintro ⟨⟨⟩, st'⟩ s' ⟨rfl, p, o, so, har, hf⟩
    dsimp only
    rw [kat_snds rfl har]
    refine wpAny_bind (seqEpoch_at ho6 rfl ?_)
    refine wpAny_bind (listUpdate_at ho6 rfl ?_ (Nat.zero_le _) (by rw [List.size_toArray, List.length_map, Array.length_toList, o.size, sizeLine_eq]; (first | lia | omega)))
    rw [hf]
    simp only [bne_self_eq_false, Bool.false_eq_true, if_false]
    exact wpAny_pure (h p o so)
theorem sorted_pairs {l : Addr} {vs : List Value} {ps : List (Int × Int)} {Q : Value → Shared → Prop} (hl : s.heap.IsList l vs.toArray) (x : PairsAt s.heap vs ps) (nd : (ps.map (·.1)).Nodup) (h64 : vs.length < 64)
    (h : ∀ p : Array Nat, Ok vs.length p → Srt (ky ps) p vs.length → Q (.ref (s.heap.objs.size + 1)) { s with heap := sortedAll s.heap vs (List.toArray (p.toList.map fun i => vs.getD i Value.none)) }) :
    wpAny (model prog w) A (call (.builtin "sorted") [.ref l]) Q E s := by
  refine Calls.call_function_entry kind_sorted plain_sorted entry_sorted (args_sorted1 _) ?_
  unfold Builtin.«sorted»
  refine wpAny_bind (m := checkCount "sorted" 1 1 _) (wpAny_pure ?_)
  refine wpAny_bind (collect_list hl ?_ (by rw [sizeLine_eq]; (first | lia | omega)))
  refine wpAny_bind (wpAny_newList ?_ (by rw [sizeLine_eq]; (first | lia | omega)))
  have hsz : ((s.heap.push (seqObj "list" #[] 0)).update s.heap.objs.size (Obj.mapSeq (· ++ vs.toArray))).objs.size = s.heap.objs.size + 1 := by
    rw [Heap.size_update, size_push']
  have hoL : (((s.heap.push (seqObj "list" #[] 0)).update s.heap.objs.size (Obj.mapSeq (· ++ vs.toArray))).push (seqObj "list" vs.toArray 0)).get? (s.heap.objs.size + 1) = some (seqObj "list" vs.toArray 0) := by
    rw [← hsz]; exact Heap.get?_push_size _ rfl
  have xL : PairsAt (((s.heap.push (seqObj "list" #[] 0)).update s.heap.objs.size (Obj.mapSeq (· ++ vs.toArray))).push (seqObj "list" vs.toArray 0)) vs ps := x.keep fun b o e _ => Heap.get?_push_of_some _ ((Heap.get?_update_ne _ _ _ _ (Nat.ne_of_lt (Heap.lt_size e))).trans (Heap.get?_push_of_some _ e))
  show wpAny _ _ _ _ _ { s with heap := ((s.heap.push (seqObj "list" #[] 0)).update s.heap.objs.size (Obj.mapSeq (· ++ vs.toArray))).push (seqObj "list" vs.toArray 0) }
  rw [hsz]
  refine wpAny_bind (wpAny_holding (wpAny_call_entry slot_list_sort ⟨_, hoL, rfl⟩ entry_list_sort (sort_pairs hoL xL nd h64 fun p o so => ⟨_, rfl, ?_⟩) (args_list_sort _)))
  exact wpAny_pure ⟨_, rfl, h p o so⟩
end
section
variable {G : Gl} {A : Around} {σ : Store} {Q : V → Store → Prop}
noncomputable def tvi (p : Int × Int) : V := .tup [.int p.1, .int p.2]
theorem RL.pairs {h : Heap} {ps : List (Int × Int)} {xs : List Value} (r : RL G h (ps.map tvi) xs) : PairsAt h xs ps := by
  refine ⟨by have := r.length; rw [List.length_map] at this; exact this.symm, fun i v p hv hp => ?_⟩
  obtain ⟨y, hy, ry⟩ := r.get (i := i) (v := tvi p) (by rw [List.getElem?_map, hp]; rfl)
  rw [hv] at hy; cases hy
  cases ry with
  | @tup a xs n _ he rl =>
    obtain ⟨ys⟩ := xs
    cases rl with
    | cons r1 r2 => cases r1; cases r2 with
      | cons r3 r4 => cases r3; cases r4; exact ⟨a, n, _, _, rfl, he⟩
theorem FN.sorted {a : Addr} {ps : List (Int × Int)} (e : σ a = some (.list (ps.map tvi))) (nd : (ps.map (·.1)).Nodup) (hz : ps.length < 64)
    (q : ∀ (qs : List (Int × Int)) b, qs.Perm ps → qs.Pairwise (fun x y => x.1 < y.1) → σ b = none → Q (.ref b) (upd σ b (.list (qs.map tvi)))) : FN G A (.builtin "sorted") [.ref a] σ Q := fun keep s xs E g r => by
  cases r with
  | cons r1 r2 => cases r1; cases r2; exact (by
      obtain ⟨ys, p, l, z⟩ := g.list e
      rw [List.length_map] at z
      have hl : ys.toList.length = ps.length := (Array.length_toList (xs := ys)).trans z
      refine sorted_pairs (vs := ys.toList) (ps := ps) (by have := p.isList; simpa using this) l.pairs nd (by (first | lia | omega)) fun w ow sw => ?_
      have kk : ∀ b o, s.heap.get? b = some o → (sortedAll s.heap ys.toList (List.toArray (w.toList.map fun i => ys.toList.getD i Value.none))).get? b = some o := fun b o hb => sortedAll_old hb
      obtain ⟨ep, hat⟩ := sortedAll_at s.heap ys.toList (List.toArray (w.toList.map fun i => ys.toList.getD i Value.none))
      have hnone : s.heap.get? (s.heap.objs.size + 1) = none := Heap.beyond _ (Nat.le_succ _)
      rw [hl] at ow sw
      have hrl : RL G s.heap ((w.toList.map fun i => ps.getD i (0, 0)).map tvi) (w.toList.map fun i => ys.toList.getD i Value.none) := by
        have hb : ∀ i ∈ w.toList, i < ps.length := fun i hi => List.mem_range.mp (ow.mem_iff.mp hi)
        generalize w.toList = ws at hb ⊢
        induction ws with
        | nil => exact .nil
        | cons i ws ih =>
          refine .cons ?_ (ih fun j hj => hb j (.tail _ hj))
          have hi := hb i (.head _)
          obtain ⟨y, hy, ry⟩ := l.get (i := i) (v := tvi (ps.getD i (0, 0))) (by rw [List.getElem?_map, List.getD_eq_getElem?_getD, List.getElem?_eq_getElem hi]; rfl)
          have hy' : ys.toList.getD i Value.none = y := by rw [List.getD_eq_getElem?_getD, hy]; rfl
          show R G s.heap (tvi (ps.getD i (0, 0))) (ys.toList.getD i Value.none)
          rw [hy']
          exact ry
      have g' : Sg G keep (upd σ (s.heap.objs.size + 1) (.list ((w.toList.map fun i => ps.getD i (0, 0)).map tvi))) { s with heap := sortedAll s.heap ys.toList (List.toArray (w.toList.map fun i => ys.toList.getD i Value.none)) } :=
        ⟨g.gens, g.os, g.hs.add hnone (But.of kk) (.list ⟨ep, hat⟩ (hrl.ext (.of kk)))⟩
      refine ⟨.of kk, _, _, g', .raw _, q _ _ ?_ ?_ (g.hs.fresh hnone)⟩
      · have h1 := ow.map fun i => ps.getD i (0, 0)
        have h2 : (List.range ps.length).map (fun i => ps.getD i (0, 0)) = ps := by
          apply List.ext_getElem?
          intro k
          rw [List.getElem?_map]
          by_cases hk : k < ps.length
          · rw [List.getElem?_range hk, List.getElem?_eq_getElem hk]
            show some (ps.getD k (0, 0)) = _
            rw [List.getD_eq_getElem?_getD, List.getElem?_eq_getElem hk]; rfl
          · rw [List.getElem?_eq_none (by simpa using hk), List.getElem?_eq_none (by (first | lia | omega))]; rfl
        rwa [h2] at h1
      · rw [List.pairwise_map, List.pairwise_iff_getElem]
        intro i j hi hj hij
        have hwz : w.toList.length = ps.length := (Array.length_toList (xs := w)).trans ow.size
        have := sw i j hij (by (first | lia | omega))
        unfold kp ky at this
        rw [Array.getD_eq_getD_getElem?, Array.getD_eq_getD_getElem?, ← Array.getElem?_toList, ← Array.getElem?_toList, List.getElem?_eq_getElem hi, List.getElem?_eq_getElem hj] at this
        exact this)

noncomputable def kmax (b : Key) : List Key → Key
  | [] => b
  | x :: r => kmax (if klt b x = true then x else b) r
theorem ext_two {h h' : Heap} {I S : Addr} (hI : G.H.get? I = none) (hS : G.H.get? S = none) (fI : ∀ o, h.get? I = some o → frz o = false) (fS : ∀ o, h.get? S = some o → frz o = false) (k : ∀ b o, b ≠ I → b ≠ S → h.get? b = some o → h'.get? b = some o) : Ext G h h' := fun a o e f => by
  refine k a o ?_ ?_ e
  · rintro rfl; rcases f with f | f
    · rw [fI o e] at f; cases f
    · rw [hI] at f; cases f
  · rintro rfl; rcases f with f | f
    · rw [fS o e] at f; cases f
    · rw [hS] at f; cases f
theorem iter_frz {h : Heap} {I l : Addr} {i : Nat} (x : h.IsListIter I l i) : ∀ o, h.get? I = some o → frz o = false := fun o e => by
  obtain ⟨o', ho, hc, _⟩ := x; rw [e] at ho; cases ho; exact frz_cls hc rfl rfl
theorem max_loop {l I S : Addr} {xs : Array Value} {ks : List Key} {Rr : Result → Shared → Prop} (hu : A.units + 1 < cLine) (hh : A.handled = none) (hI : G.H.get? I = none) (hS : G.H.get? S = none) (hSI : S ≠ I) (hSl : S ≠ l) (hIl : I ≠ l) :
    ∀ (rest : List Key) (j : Nat) (s : Shared) (vb : Value) (b : Key) (c : Nat), ks.drop j = rest → j ≤ ks.length → s.heap.IsListIter I l j → s.heap.IsList l xs → RL G s.heap (ks.map tv) xs.toList → R G s.heap (tv b) vb →
    s.heap.get? S = some { cls := .type "list", dict := none, data := .seq #[vb, vb] c, slots := #[] } →
    (∀ v h' tk, R G h' (tv (kmax b rest)) v → (∀ b o, b ≠ I → b ≠ S → s.heap.get? b = some o → h'.get? b = some o) → Rr (.ok (.ret v)) { s with heap := h', toks := tk }) →
    codeAny (MM G) A (.builtin "max.loop" ⟨[.ref I, .none, .ref S], []⟩) Rr s := by
  have hname : (toString "max" ++ toString ".loop" : String) = "max.loop" := by decide
  intro rest
  induction rest with
  | nil =>
    intro j s vb b c hd hj hit hl rl rb hs hR
    have hz : xs.size = ks.length := by have := rl.size; rwa [List.length_map] at this
    have hje : j = ks.length := by have := congrArg List.length hd; rw [List.length_drop] at this; simp at this; (first | lia | omega)
    refine codeAny_builtin F.entry_max_loop ?_
    rw [Around.under_plainId F.plain_max_loop _]
    show wpAny _ A.in1 (seqItems? (.ref S) >>= _) _ _ s
    refine wpAny_bind (wpAny_seqItems hs rfl ?_)
    show wpAny _ A.in1 (tryCatch (pyNext (.ref I)) _ >>= _) _ _ s
    refine wpAny_bind (wpAny_tryCatch (wpAny_pyNext_list_end (A := A.in1) hh hit hl (Array.getElem?_eq_none (by (first | lia | omega))) fun h' ex => ?_))
    have hs' : h'.get? S = _ := ex S _ hSI hs
    show wpAny _ A.in1 (updateSeq S (fun _ => #[]) >>= _) _ _ _
    refine wpAny_bind ?_
    refine wpAny_updateSeq (s := { s with heap := h' }) hs' rfl (wpAny_bind (wpAny_letGo (wpAny_pure ?_)))
    have kk : ∀ b o, b ≠ I → b ≠ S → s.heap.get? b = some o → (h'.update S (Obj.mapSeq fun _ => #[])).get? b = some o := fun b o h1 h2 e => (Heap.get?_update_other _ _ (Ne.symm h2)).trans (ex b o h1 e)
    exact hR vb _ s.toks (rb.ext (ext_two hI hS (iter_frz hit) (fun o e => by rw [hs] at e; cases e; rfl) kk)) kk
  | cons x rest ih =>
    intro j s vb b c hd hj hit hl rl rb hs hR
    have hx : ks[j]? = some x := by have := congrArg (·[0]?) hd; simpa [List.getElem?_drop] using this
    have hlt : j < ks.length := (List.getElem?_eq_some_iff.mp hx).1
    have hd' : ks.drop (j + 1) = rest := by rw [← List.drop_drop, hd]; rfl
    obtain ⟨v, hv, rv⟩ := rl.get (i := j) (v := tv x) (by rw [List.getElem?_map, hx]; rfl)
    rw [Array.getElem?_toList] at hv
    refine codeAny_builtin F.entry_max_loop ?_
    rw [Around.under_plainId F.plain_max_loop _]
    show wpAny _ A.in1 (seqItems? (.ref S) >>= _) _ _ s
    refine wpAny_bind (wpAny_seqItems hs rfl ?_)
    show wpAny _ A.in1 (tryCatch (pyNext (.ref I)) _ >>= _) _ _ s
    refine wpAny_bind (wpAny_tryCatch (wpAny_pyNext_list_item hit hl hv fun h' it' sb => ?_))
    have hs' : h'.get? S = _ := (sb.2 S hSI).trans hs
    have k1 : ∀ b o, b ≠ I → b ≠ S → s.heap.get? b = some o → h'.get? b = some o := fun b o h1 _ e => (sb.2 b h1).trans e
    have e1 : Ext G s.heap h' := ext_two hI hS (iter_frz hit) (fun o e => by rw [hs] at e; cases e; rfl) k1
    show wpAny _ A.in1 (tryCatch (holding [v, v] (richCompare .Gt v vb >>= _)) _ >>= _) _ _ _
    refine wpAny_bind (wpAny_tryCatch (wpAny_holding (wpAny_bind (cmp_gt (G := G) (s := { s with heap := h' }) (a := x) (b := b) (A := A.in1) hu (rv.ext e1) (rb.ext e1) ?_))))
    refine wpAny_bind (wpAny_holding (wpAny_truthy_bool ?_))
    refine wpAny_bind (wpAny_letGo (wpAny_pure ?_))
    have hl' : h'.IsList l xs := hl.at fun o e => (sb.2 l (Ne.symm hIl)).trans e
    cases hb : klt b x with
    | true =>
      simp only [if_true]
      refine wpAny_bind ?_
      refine wpAny_updateSeq (s := { s with heap := h' }) hs' rfl (wpAny_bind (wpAny_letGo ?_))
      rw [hname]
      have k2 : ∀ b o, b ≠ I → b ≠ S → s.heap.get? b = some o → (h'.update S (Obj.mapSeq fun _ => #[v, v])).get? b = some o := fun b o h1 h2 e => (Heap.get?_update_other _ _ (Ne.symm h2)).trans (k1 b o h1 h2 e)
      have e2 : Ext G s.heap (h'.update S (Obj.mapSeq fun _ => #[v, v])) := ext_two hI hS (iter_frz hit) (fun o e => by rw [hs] at e; cases e; rfl) k2
      refine wpAny_pure ⟨plainId_quiet F.plain_max_loop _, ih (j + 1) _ v x _ hd' hlt (it'.at fun o e => (Heap.get?_update_other _ _ hSI).trans e) (hl'.at fun o e => (Heap.get?_update_other _ _ hSl).trans e) (rl.ext e2) (rv.ext e2) (Heap.get?_update_self _ hs' rfl) fun v' h'' tk'' r' kk => ?_⟩
      refine hR v' h'' tk'' (by rw [kmax, hb, if_pos rfl]; exact r') fun b o h1 h2 e => kk b o h1 h2 (k2 b o h1 h2 e)
    | false =>
      simp only [Bool.false_eq_true, if_false]
      refine wpAny_bind (wpAny_letGo ?_)
      rw [hname]
      refine wpAny_pure ⟨plainId_quiet F.plain_max_loop _, ih (j + 1) _ vb b c hd' hlt it' hl' (rl.ext e1) (rb.ext e1) hs' fun v' h'' tk'' r' kk => ?_⟩
      refine hR v' h'' tk'' (by rw [kmax, hb, if_neg Bool.false_ne_true]; exact r') fun b o h1 h2 e => kk b o h1 h2 (k1 b o h1 h2 e)
theorem FN.max {a : Addr} {k : Key} {ks : List Key} {n : Nat} (hr : Room A n) (e : σ a = some (.list ((k :: ks).map tv))) (q : Q (tv (kmax k ks)) σ) : FN G A (.builtin "max") [.ref a] σ Q := fun keep s xs E g r => by
  cases r with
  | cons r1 r2 => cases r1; cases r2; exact (by
      have hname : (toString "max" ++ toString ".loop" : String) = "max.loop" := by decide
      have hu : A.in1.units + 1 < cLine := by have := hr.units; show A.units + 1 + 1 < 9900; (first | lia | omega)
      obtain ⟨ys, p, l, z⟩ := g.list e
      have ha : a < s.heap.objs.size := by obtain ⟨m, hp⟩ := p; exact Heap.lt_size hp
      refine call_function_tree F.kind_max F.plain_max F.entry_max (F.args_max1 _) ?_
      show wpAny _ A.in1 (Builtin.Builtins.bindParams "max" ["key", "default"] 0 ⟨[], []⟩ >>= _) _ _ s
      refine wpAny_bind (wpAny_of_eq (show Builtin.Builtins.bindParams "max" ["key", "default"] 0 ⟨[], []⟩ = pure [none, none] from rfl) ?_)
      refine wpAny_bind (wpAny_pure ?_)
      refine wpAny_bind (wpAny_pyIter_list p.isList ?_)
      refine wpAny_bind (wpAny_newObj_type ?_)
      rw [hname]
      have hIz : (s.heap.push { cls := .type "list_iterator", data := .fields #[.ref a, .int 0 0] }).objs.size = s.heap.objs.size + 1 := Heap.size_push ..
      have noH : ∀ m, s.heap.objs.size ≤ m → G.H.get? m = none := fun m hm => by
        cases hq : G.H.get? m with
        | none => rfl
        | some o => exact absurd (Heap.lt_size (g.hs.H _ _ hq)) (Nat.not_lt.mpr hm)
      obtain ⟨v, hv, rv⟩ := l.get (i := 0) (v := tv k) rfl
      rw [Array.getElem?_toList] at hv
      have kk0 : ∀ b o, s.heap.get? b = some o → ((s.heap.push { cls := .type "list_iterator", data := .fields #[.ref a, .int 0 0] }).push { cls := .type "list", data := .seq #[] }).get? b = some o := fun b o e => Heap.get?_push_of_some _ (Heap.get?_push_of_some _ e)
      refine wpAny_pure ⟨plainId_quiet F.plain_max_loop _, ?_⟩
      refine codeAny_builtin F.entry_max_loop ?_
      rw [Around.under_plainId F.plain_max_loop _]
      have hS0 : ((s.heap.push { cls := .type "list_iterator", data := .fields #[.ref a, .int 0 0] }).push { cls := .type "list", data := .seq #[] }).get? (s.heap.objs.size + 1) = some { cls := .type "list", data := .seq #[] } := by rw [← hIz]; exact Heap.get?_push_size _ rfl
      have hI0 : ((s.heap.push { cls := .type "list_iterator", data := .fields #[.ref a, .int 0 0] }).push { cls := .type "list", data := .seq #[] }).IsListIter s.heap.objs.size a 0 := ⟨_, Heap.get?_push_of_some _ (Heap.get?_push_size _ rfl), rfl, rfl⟩
      rw [hIz]
      generalize (s.heap.push { cls := .type "list_iterator", data := .fields #[.ref a, .int 0 0] }).push { cls := .type "list", data := .seq #[] } = h0 at kk0 hS0 hI0 ⊢
      show wpAny _ A.in1 (seqItems? (.ref (s.heap.objs.size + 1)) >>= _) _ _ { s with heap := h0 }
      refine wpAny_bind (wpAny_seqItems (s := { s with heap := h0 }) hS0 rfl ?_)
      show wpAny _ A.in1 (tryCatch (pyNext (.ref s.heap.objs.size)) _ >>= _) _ _ _
      have hla : h0.IsList a ys := p.isList.at fun o e => kk0 a o e
      refine wpAny_bind (wpAny_tryCatch (wpAny_pyNext_list_item (s := { s with heap := h0 }) hI0 hla hv fun h' it' sb => ?_))
      have hs' : h'.get? (s.heap.objs.size + 1) = _ := (sb.2 _ (Nat.succ_ne_self _)).trans hS0
      show wpAny _ A.in1 (updateSeq (s.heap.objs.size + 1) (fun _ => #[v, v]) >>= _) _ _ _
      refine wpAny_bind ?_
      refine wpAny_updateSeq (s := { s with heap := h' }) hs' rfl ?_
      rw [hname]
      have k2 : ∀ b o, b ≠ s.heap.objs.size → b ≠ s.heap.objs.size + 1 → h0.get? b = some o → (h'.update (s.heap.objs.size + 1) (Obj.mapSeq fun _ => #[v, v])).get? b = some o := fun b o h1 h2 e => (Heap.get?_update_other _ _ (Ne.symm h2)).trans ((sb.2 b h1).trans e)
      have e2 : Ext G h0 (h'.update (s.heap.objs.size + 1) (Obj.mapSeq fun _ => #[v, v])) := ext_two (noH _ (Nat.le_refl _)) (noH _ (Nat.le_succ _)) (iter_frz hI0) (fun o e => by rw [hS0] at e; cases e; rfl) k2
      have e3 : Ext G s.heap (h'.update (s.heap.objs.size + 1) (Obj.mapSeq fun _ => #[v, v])) := (Ext.of kk0).trans e2
      have ne1 : s.heap.objs.size + 1 ≠ a := Nat.ne_of_gt (Nat.lt_succ_of_lt ha)
      have ne2 : s.heap.objs.size ≠ a := Nat.ne_of_gt ha
      refine wpAny_pure ⟨plainId_quiet F.plain_max_loop _, max_loop (ks := k :: ks) (A := A) (by have := hr.units; show A.units + 1 < 9900; (first | lia | omega)) hr.hd (noH _ (Nat.le_refl _)) (noH _ (Nat.le_succ _)) (Nat.succ_ne_self _) ne1 ne2 ks 1 _ v k _ rfl (by simp) (it'.at fun o e => (Heap.get?_update_other _ _ (Nat.succ_ne_self _)).trans e) ((hla.at fun o e => (sb.2 a (Ne.symm ne2)).trans e).at fun o e => (Heap.get?_update_other _ _ ne1).trans e) (l.ext e3) (rv.ext e3) (Heap.get?_update_self _ hs' rfl) fun v' h'' tk'' r' kk => ?_⟩
      have kf : ∀ b o, s.heap.get? b = some o → h''.get? b = some o := fun b o e => by
        have hb := Heap.lt_size e
        have n1 : b ≠ s.heap.objs.size := Nat.ne_of_lt hb
        have n2 : b ≠ s.heap.objs.size + 1 := Nat.ne_of_lt (Nat.lt_succ_of_lt hb)
        exact kk b o n1 n2 (k2 b o n1 n2 (kk0 b o e))
      exact ⟨.of kf, _, _, ⟨g.gens, g.os, g.hs.keeps (But.of kf)⟩, r', q⟩)
end
noncomputable def clsBody : List Stmt := match (pb[39]? : Option Stmt) with | some (.ClassDef _ _ _ b _ _ _ _ _ _ _) => b | _ => []
noncomputable def mBody (i : Nat) : List Stmt := match clsBody[i]? with | some (.FunctionDef _ _ b _ _ _ _ _ _ _) => b | _ => []
noncomputable def mParams (i : Nat) : Arguments := match clsBody[i]? with | some (.FunctionDef _ a _ _ _ _ _ _ _ _) => a | _ => default
noncomputable def mScope (i : Nat) : Scope := match clsBody[i]? with | some (.FunctionDef _ _ _ _ _ _ s _ _ _) => s | _ => default
noncomputable def mfd (i : Nat) (nm qual : Str) (dflt pm cd doc : Value) : FuncData :=
  { name := nm, qualname := qual, params := mParams i, body := .stmts (mBody i), scope := mScope i, globals := mainGlobals, closure := [], defaults := dflt, kwdefaults := .none, doc, pyModule := pm, code := cd, builtins := builtinsNs }
structure GC (G : Gl) (K : Frag) (C fI fN : Addr) : Prop where
  X : K.In G.H
  mks : makesIn K C = true
  ini : findIn K (.ref C) "__init__" = some (some (.ref fI))
  tyI : typeIn K (.ref fI) = some (.type "function")
  sa : findIn K (.ref C) "__setattr__" = some (some (.builtin "object.__setattr__"))
  po : plainOver K C = true
  hd : (clsIn K C).any (·.hasDict) = true
  ga : findIn K (.ref C) "__getattribute__" = some (some (.builtin "object.__getattribute__"))
  gt : findIn K (.ref C) "__getattr__" = some none
  nm : findIn K (.ref C) "names" = some (some (.ref fN))
  tyN : typeIn K (.ref fN) = some (.type "function")
  at' : ∀ x, [Str.ofString "_mods", Str.ofString "_dirs", Str.ofString "_ignore"].contains x = true → findIn K (.ref C) x = some none
  kC : keepIn K (.ref C) = true
  kN : keepIn K (.ref fN) = true
  glob : G.mg "_Ignore" = some (.ref C)
  fnI : ∃ T pm cd doc o n, FnAt G.H fI (mfd 0 "__init__" "_Ignore.__init__" (.ref T) pm cd doc) ∧ G.H.get? T = some o ∧ o.data = .seq #[.none, .none] n
  fnN : ∃ pm cd doc, FnAt G.H fN (mfd 1 "names" "_Ignore.names" .none pm cd doc)
section
variable {G : Gl} {A : Around} {env : Env} {ρ : Rho} {σ : Store} {Q : V → Store → Prop} {K : Frag} {C fI fN : Addr}
theorem nsSet_le {M : Model} {E : Value → Shared → Prop} {s : Shared} {a : Addr} {m : Str → Option Value} {n : Nat} {name : Str} {v : Value} {Q : Unit → Shared → Prop} (hn : s.heap.Ns a m) (hz : s.heap.DictLe a n)
    (h : ∀ h', h'.Ns a (fun x => if x = name then some v else m x) → Heap.SameBut a s.heap h' → h'.DictLe a (n + 1) → Q () { s with heap := h', toks := s.toks + 1 }) : wpAny M A (nsSet a name v) Q E s := fun Γ p _ => by
  have hN := Sem.wp_nsSet M Γ (fun e _ s' => E e s') p s hn name v (fun _ _ s' => s'.heap.Ns a (fun x => if x = name then some v else m x)) fun h' x _ => x
  obtain ⟨o, es, ep, ho, hd, hk, hm⟩ := hn
  have hany : es.any (·.refKey) = false := by
    rw [Array.any_eq_false']; intro e he; obtain ⟨n, t, h⟩ := hk e he; simp [DictEntry.refKey, h]
  simp only [nsSet, strHash, Sem.wp_bind', Sem.wp_cmd_ask, Sem.wp_pure', Sem.wp_cmd_mkText] at hN ⊢
  rw [Sem.wp_loadPart_of M Γ _ p { s with toks := s.toks + 1 } (o := o) _ ho] at hN ⊢
  simp only [hd, aRefKeyMayBeTheName_at, hany, Bool.and_false, Bool.false_eq_true, if_false, Sem.wp_cmd_updatePart] at hN ⊢
  refine ⟨hN.1, h _ hN.2 (Heap.SameBut.update ..) fun o' es' ep' ho' hd' => ?_⟩
  have hsz := hz o es ep ho hd
  obtain ⟨c, d, dt, sl⟩ := o
  subst hd
  cases hi : es.findIdx? (·.key.isStr name) with
  | some i =>
    rw [Heap.get?_update_self _ ho (by simp only [Obj.putName_eq, Obj.putNameByArray, hi]; rfl)] at ho'
    cases ho'
    simp only [Obj.putName_eq, Obj.putNameByArray, hi] at hd'
    cases hd'
    simp; (first | lia | omega)
  | none =>
    rw [Heap.get?_update_self _ ho (by simp only [Obj.putName_eq, Obj.putNameByArray, hi]; rfl)] at ho'
    cases ho'
    simp only [Obj.putName_eq, Obj.putNameByArray, hi] at hd'
    cases hd'
    simp; (first | lia | omega)
theorem Sg.inst {keep : Keep} {s : Shared} (g : Sg G keep σ s) {x d : Addr} {kvs : List (Str × V)} (hx : σ x = some (.inst C d)) (hd : σ d = some (.attrs kvs)) :
    ∃ od m, InstAt s.heap x (instObj C d) C (some od) ∧ s.heap.Ns d m ∧ (∀ y v, vat kvs y = some v → ∃ z, m y = some z ∧ R G s.heap v z) ∧ (∀ y, vat kvs y = none → m y = none) ∧ (∀ y, lookIn y od = some (m y)) ∧ s.heap.DictLe d kvs.length := by
  cases g.hs.rep x _ hx with
  | inst px => cases g.hs.rep d _ hd with
    | @attrs _ m hn hz h1 h2 =>
      obtain ⟨o, es, ep, ho, hdat, hk, hf⟩ := id hn
      refine ⟨o, m, ⟨px, rfl, rfl, ho⟩, hn, h1, h2, fun y => ?_, hz⟩
      unfold lookIn
      rw [hdat]
      dsimp only
      have hy := hf y
      unfold nsFind findBy at hy
      rw [← Array.find?_toList] at hy
      cases hfi : es.toList.find? (fun e => e.key.isStr y) with
      | some e => rw [hfi] at hy; exact congrArg some hy
      | none =>
        rw [hfi] at hy
        have : es.toList.any (·.refKey) = false := by
          rw [List.any_eq_false]
          intro e he
          obtain ⟨n, t, hn⟩ := hk e (Array.mem_toList_iff.mp he)
          unfold DictEntry.refKey; rw [hn]; simp
        dsimp only
        rw [this]
        exact congrArg some hy
theorem EV.attr {n attr : Str} {np pos : Pos} (c : GC G K C fI fN) (ha : [Str.ofString "_mods", Str.ofString "_dirs", Str.ofString "_ignore"].contains attr = true)
    (h : EV G A env (.Name n np) ρ σ fun a σ' => ∃ x d kvs b, a = .ref x ∧ σ' x = some (.inst C d) ∧ σ' d = some (.attrs kvs) ∧ vat kvs attr = some (.ref b) ∧ Q (.ref b) σ') : EV G A env (.Attribute (.Name n np) attr pos) ρ σ Q := fun keep s E st => by
  refine Attribute_name (wpAny_mono (h keep s E st) (fun y s₁ h₁ => ?_) fun _ _ x => x)
  obtain ⟨e₁, a, σ₁, st₁, r₁, x, d, kvs, b, rfl, hx, hd, hv, q⟩ := h₁
  cases r₁
  obtain ⟨od, m, I, hn, m1, m2, lk, hz⟩ := st₁.toSg.inst hx hd
  obtain ⟨z, hz, rz⟩ := m1 attr _ hv
  cases rz
  obtain ⟨cd, hc, hh⟩ := any_some c.hd
  refine get_value (v := .ref b) (c.X.keeps st₁.hs.H) I c.ga ?_ rfl (pv.up e₁ (pv.here st₁.tok (.raw _) q))
  unfold findObj
  rw [hc, Option.bind_some, c.at' attr ha]
  simp only [Option.bind_some]
  unfold W.ownOf
  rw [if_pos hh]
  dsimp only
  rw [lk, hz]
  rfl
theorem AS.attr {o : Expr} {attr : Str} {pos : Pos} {v : V} {Q : Rho → Store → Prop} (c : GC G K C fI fN) (ha : [Str.ofString "_mods", Str.ofString "_dirs", Str.ofString "_ignore"].contains attr = true)
    (h : EV G A env o ρ σ fun a σ' => ∃ x d kvs, a = .ref x ∧ σ' x = some (.inst C d) ∧ σ' d = some (.attrs kvs) ∧ vat kvs attr = none ∧ kvs.length ≤ 10 ∧ Q ρ (upd σ' d (.attrs (kvs ++ [(attr, v)])))) : AS G A env (.Attribute o attr pos) v ρ σ Q := fun keep s z E st r => by
  rw [assign_Attribute]
  refine wpAny_bind (wpAny_holding (wpAny_mono (h keep s E st) (fun y s₁ h₁ => wpAny_bind (wpAny_standAt (wpAny_bind (wpAny_holding ?_)))) fun _ _ x => x))
  obtain ⟨e₁, a, σ₁, st₁, r₁, x, d, kvs, rfl, hx, hd, hv, hk10, q⟩ := h₁
  cases r₁
  obtain ⟨od, m, I, hn, m1, m2, lk, hz⟩ := st₁.toSg.inst hx hd
  have X := c.X.keeps st₁.hs.H
  obtain ⟨cd, hc, hh⟩ := any_some c.hd
  refine set_plain X I c.sa ?_
  refine osa_open (s := { s₁ with toks := s₁.toks + 1 }) X I c.po (r := none) (by unfold takerIn; rw [c.at' attr ha]; rfl) fun b => ?_
  refine wpAny_bind (wpAny_pure (wpAny_bind (wpAny_bind (wpAny_loadPart (s := { s₁ with toks := s₁.toks + 1 }) I.at_ (wpAny_bind (Looks.here (s := { s₁ with toks := s₁.toks + 1 }) (looks_clsIn X hc) ?_))))))
  rw [hh]
  refine wpAny_pure (a := some d) (wpAny_bind (wpAny_pure (wpAny_bind ?_)))
  refine nsSet_le (s := { s₁ with toks := s₁.toks + 1 }) hn hz fun h' hn' sb hz' => ?_
  obtain ⟨o', es', ep', ho', hd', _⟩ := id hn'
  refine wpAny_bind (wpAny_lookBehind (s := { s₁ with heap := h', toks := s₁.toks + 1 + 1 }) ho' (by rw [hd']; exact pastItsLine_dict (by have := hz' o' es' ep' ho' hd'; rw [sizeLine_eq]; (first | lia | omega))) (wpAny_pure ?_))
  have rv := r.ext e₁
  obtain ⟨hs', he⟩ := st₁.sg.hs.put (o' := .attrs (kvs ++ [(attr, v)])) hd (But.one sb) fun he => .attrs hn' (by rw [List.length_append]; exact hz') (fun y w hw => by
    by_cases hy : y = attr
    · subst hy
      refine ⟨z, if_pos rfl, ?_⟩
      have : vat (kvs ++ [(y, v)]) y = some v := by
        unfold vat at hv ⊢
        rw [List.find?_append]
        cases hf : kvs.find? fun p => p.1 = y with
        | some p => rw [hf] at hv; cases hv
        | none => simp
      rw [this] at hw; cases hw
      exact rv.ext he
    · have : vat (kvs ++ [(attr, v)]) y = vat kvs y := by
        unfold vat
        rw [List.find?_append]
        have hne : ¬ attr = y := fun e => hy e.symm
        simp [hne]
      rw [this] at hw
      obtain ⟨z', e1, r1⟩ := m1 y w hw
      exact ⟨z', (if_neg hy).trans e1, r1.ext he⟩) fun y hy => by
    have hne : y ≠ attr := by
      rintro rfl
      unfold vat at hy
      rw [List.find?_append] at hy
      simp at hy
    rw [if_neg hne]
    refine m2 y ?_
    unfold vat at hy ⊢
    rw [List.find?_append] at hy
    cases hf : kvs.find? fun p => p.1 = y with
    | some p => rw [hf] at hy; cases hy
    | none => rfl
  exact wpAny_release ⟨e₁.trans he, ρ, _, st₁.back ⟨st₁.gens, st₁.os, hs'⟩ he, q⟩
theorem EV.methR {o e : Expr} {es : List Expr} {apos pos : Pos} {pl : Sem Bool} (c : GC G K C fI fN)
    (h : EV G A env o ρ σ fun a σ₁ => ∃ x d kvs, a = .ref x ∧ σ₁ x = some (.inst C d) ∧ σ₁ d = some (.attrs kvs) ∧ vat kvs "names" = none ∧ EL G A env pos (e :: es) ρ σ₁ fun vs σ₂ => FN G A (.ref fN) (.ref x :: vs) σ₂ Q)
    (hx : eval (.Call (.Attribute o "names" apos) (e :: es) [] pos) env = (do
      let ov ← eval o env
      standAt apos.atName
      let (f, first) ← holding [ov] (getMethod ov "names" pl)
      callWith pos f first (backTo pos (starEach (e :: es) env)) []) := by rfl)
    (he : starEach (e :: es) env = (false, eval e env) :: starEach es env := by rfl) (hp : (backTo pos (starEach es env)).any (·.1) = false := by rfl) :
    EV G A env (.Call (.Attribute o "names" apos) (e :: es) [] pos) ρ σ Q := fun keep s E st => by
  refine MethodCall_ (pl := pl) (wpAny_mono (h keep s E st) (fun y s₁ h₁ => ?_) fun _ _ x => x) hx
  obtain ⟨e₁, a, σ₁, st₁, ra, x, d, kvs, rfl, hx, hd, hv, h₁⟩ := h₁
  cases ra
  obtain ⟨od, m, I, hn, m1, m2, lk, hz⟩ := st₁.toSg.inst hx hd
  have X := c.X.keeps st₁.hs.H
  refine method_fn X I c.ga c.gt c.nm c.tyN (by unfold shadowIn; dsimp only; rw [lk, m2 _ hv]; rfl) ?_
  refine callWith_K X c.kN (wpAny_mono (h₁ keep s₁ E st₁) (fun xs s₂ h₂ => ?_) fun _ _ x => x) he hp
  obtain ⟨e₂, vs, σ₂, st₂, r₂, h₂⟩ := h₂
  exact ⟨c.X.keeps st₂.hs.H, wpAny_mono (lift st₂ (h₂ _ s₂ (.ref x :: xs) E st₂.sg (.cons (.raw _) r₂))) (fun _ _ p => (p.up e₂).up e₁) fun _ _ x => x⟩
theorem EV.make {p pos : Pos} {e : Expr} {es : List Expr} {n : Nat} (c : GC G K C fI fN) (hr : Room A (n + 1))
    (h : EL G A env pos (e :: es) ρ σ fun vs σ' => ∀ x d A', Room A' n → x ≠ d → σ' x = none → σ' d = none → FC G A' (.ref fI) (.ref x :: vs) (upd (upd σ' d (.attrs [])) x (.inst C d)) fun v σ'' => v = .none ∧ Q (.ref x) σ'')
    (hk : env.kindOf "_Ignore" = some .globalImplicit := by rfl) (he : starEach (e :: es) env = (false, eval e env) :: starEach es env := by rfl) (hp : (backTo pos (starEach es env)).any (·.1) = false := by rfl) :
    EV G A env (.Call (.Name "_Ignore" p) (e :: es) [] pos) ρ σ Q := fun keep s E st => by
  refine PyProof.Rows.Call_ (Calls.Name_function_global st.loc.kind hk (Calls.loadGlobal_global (by rw [st.loc.glob]; exact G.ga.keeps st.hs.H) c.glob ?_) (by decide +kernel))
  refine callWith_K (c.X.keeps st.hs.H) c.kC (wpAny_mono (h keep s E st) (fun xs s₁ h₁ => ?_) fun _ _ x => x) he hp
  obtain ⟨e₁, vs, σ₁, st₁, r₁, h₁⟩ := h₁
  have X := c.X.keeps st₁.hs.H
  refine ⟨X, wpAny_call ?_⟩
  show codeAny (MM G) A (.call (.ref C) ⟨xs, []⟩) _ s₁
  refine make_core (h := s₁.heap) (g := s₁.gens) (d := s₁.drawn) (t := s₁.toks) (os := s₁.os) (makes_of X c.mks) (looks_findIn X c.ini) (fun self => bind_fn X self c.tyI) (.inl rfl) ?_
  have kk : ∀ b o, s₁.heap.get? b = some o → ((s₁.heap.push emptyDict).push (instObj C s₁.heap.objs.size)).get? b = some o := fun b o q => Heap.get?_push_of_some _ (Heap.get?_push_of_some _ q)
  have hz : (s₁.heap.push emptyDict).objs.size = s₁.heap.objs.size + 1 := Heap.size_push ..
  have gx : ((s₁.heap.push emptyDict).push (instObj C s₁.heap.objs.size)).get? (s₁.heap.objs.size + 1) = some (instObj C s₁.heap.objs.size) := by rw [← hz]; exact Heap.get?_push_size _ rfl
  have gd : ((s₁.heap.push emptyDict).push (instObj C s₁.heap.objs.size)).get? s₁.heap.objs.size = some emptyDict := Heap.get?_push_of_some _ (Heap.get?_push_size _ rfl)
  generalize (s₁.heap.push emptyDict).push (instObj C s₁.heap.objs.size) = h' at kk gx gd ⊢
  have g1 : HS G (allBut σ₁ s₁.heap) (upd σ₁ s₁.heap.objs.size (.attrs [])) h' := st₁.sg.hs.add (Heap.size_none _) (But.of kk) (.attrs (m := fun _ => none) ⟨_, #[], 0, gd, rfl, fun e he => by simp at he, fun _ => rfl⟩ (fun o es ep ho hd => by rw [gd] at ho; cases ho; cases hd; exact Nat.le_refl _) (fun y v hv => nomatch hv) fun _ _ => rfl)
  have hnk : ∀ o, ¬ allBut σ₁ s₁.heap (s₁.heap.objs.size + 1) o := st₁.sg.hs.free (Heap.beyond _ (Nat.le_succ _))
  have g2 : Sg G (allBut σ₁ s₁.heap) (upd (upd σ₁ s₁.heap.objs.size (.attrs [])) (s₁.heap.objs.size + 1) (.inst C s₁.heap.objs.size)) { s₁ with heap := h' } := ⟨st₁.gens, st₁.os, g1.adopt hnk (.inst gx)⟩
  have hroom : Room (A.under (.builtin "type.__call__" ⟨.ref C :: xs, []⟩)) n := ⟨hr.hd, by have := hr.depth; show A.depth + 1 + n ≤ 900; (first | lia | omega), by have := hr.units; show A.units + 1 + 100 * n ≤ 9000; (first | lia | omega)⟩
  refine codeAny_mono (h₁ (s₁.heap.objs.size + 1) s₁.heap.objs.size _ hroom (Nat.succ_ne_self _) (st₁.hs.fresh (Heap.beyond _ (Nat.le_succ _))) (st₁.hs.fresh (Heap.size_none _)) (allBut σ₁ s₁.heap) { s₁ with heap := h' } (.ref (s₁.heap.objs.size + 1) :: xs) g2 (.cons (.raw _) (r₁.ext (.of kk)))) fun r s' z => ?_
  rcases r with e | (v | _ | _ | _) <;> first | exact z.elim | skip
  obtain ⟨e₂, w, σ₂, sg₂, rw_, rfl, q⟩ := z
  cases rw_
  have e12 : Ext G s₁.heap s'.heap := (Ext.of kk).trans e₂
  exact ⟨rfl, e₁.trans e12, _, σ₂, st₁.back sg₂ e12, .raw _, q⟩
end
section
variable {G : Gl} {A : Around} {σ : Store} {Q : V → Store → Prop} {E : Value → Shared → Prop} {s : Shared}
theorem lay1 (led : Bool) (h : Int) (x : Value) : layNew (.fresh 0 0 led) #[] h x = (#[(h, x)], { SetTable.fresh 0 0 led with place := #[SetTable.bits h % 8] }, false, false) := rfl
theorem set_new1 (a : Value) {Q₁ : Value → Shared → Prop}
    (h : Q₁ (.ref s.heap.objs.size) { s with heap := s.heap.push { cls := .type "set", dict := none, data := .set #[] 0 (.fresh 0 0 (!G.w.params.followText "set-order")) } }) :
    codeAny (MM G) A (.call (.builtin "set.__new__") ⟨[.type "set", a], []⟩) (wants Q₁ E) s := by
  refine codeAny_of_tree ?_
  show wpAny _ A.in1 (do checkBuiltinCall "set.__new__" ⟨[.type "set", a], []⟩; again (.builtin "set.__new__" ⟨[.type "set", a], []⟩)) _ _ s
  refine wpAny_bind (wpAny_of_eq (F.newCall_set_1 a) (wpAny_pure ⟨plainId_quiet F.plain_set_new _, codeAny_builtin F.entry_set_new ?_⟩))
  rw [Around.under_plainId F.plain_set_new _]
  unfold Builtin.«set.__new__» Builtin.Frozenset.newClass
  have hsub := sub_set_self
  obtain ⟨hp, g, d, tk, os⟩ := s
  dsimp only
  wp_walk
  refine wpAny_askSetting (wpAny_pure ?_)
  dsimp only
  simp only [newObj]
  refine wpAny_bind (wpAny_alloc (wpAny_pure ?_))
  exact wpAny_pure h
theorem set_add1 {S : Addr} {led : Bool} {x : Str} {t : Tok} {P : Bool → Shared → Prop} (hS : s.heap.get? S = some { cls := .type "set", data := .set #[] 0 (.fresh 0 0 led) })
    (h : ∀ h', Heap.SameBut S s.heap h' → h'.get? S = some (setObj1 G.w x t 1 led) → P true { s with heap := h' }) : wpAny (MM G) A (setAddHashed S (.str x t) (hashStr G.w x)) P E s := by
  unfold setAddHashed setAddHashedIn
  refine wpAny_holding (wpAny_bind (wpAny_setState_of hS rfl rfl ?_))
  dsimp only
  have hb : byScan (.str x t) #[] = true := by simp [byScan, Value.scannable, scanBound]
  rw [hb]
  simp only [↓reduceIte]
  unfold setAddByScan
  refine wpAny_bind ?_
  refine wpAny_bind (wpAny_rule ?_)
  refine wpAny_bind (wpAny_setScan_of (knd := PySem.strKind G.prog G.w) (k := x) (isS _ _) hS rfl rfl (fun e he => by simp at he) ?_)
  dsimp only
  rw [lay1]
  dsimp only
  refine wpAny_bind (wpAny_pure ?_)
  refine wpAny_bind (wpAny_pure ?_)
  have hu : Heap.SameBut S s.heap (s.heap.update S (Obj.putSet #[(hashStr G.w x, .str x t)] { SetTable.fresh 0 0 led with place := #[SetTable.bits (hashStr G.w x) % 8], plain := false })) := Heap.SameBut.update ..
  refine wpAny_bind (wpAny_storeSet_of hS rfl ?_)
  exact wpAny_pure (wpAny_pure (h _ hu (Heap.get?_update_self _ hS rfl)))
theorem set_loop1 {R : Result → Shared → Prop} {S I l : Addr} {x : Str} {t : Tok} {items : Array Value} (hh : A.handled = none) (hSI : S ≠ I) (hSl : S ≠ l) (hlI : l ≠ I) (hit : s.heap.IsListIter I l 0) (hl : s.heap.IsList l items) (hv : items = #[.str x t])
    {led : Bool} (hS : s.heap.get? S = some { cls := .type "set", data := .set #[] 0 (.fresh 0 0 led) })
    (hR : ∀ h' tk, h'.get? S = some (setObj1 G.w x t 1 led) → (∀ b o, b ≠ S → b ≠ I → s.heap.get? b = some o → h'.get? b = some o) → R (.ok (.ret .none)) { s with heap := h', toks := tk }) :
    codeAny (MM G) A (.builtin "set.update.loop" ⟨[.ref S, .ref I], []⟩) R s := by
  refine codeAny_builtin F.entry_set_update_loop ?_
  rw [Around.under_plainId F.plain_set_update_loop _]
  show wpAny _ A.in1 (pyNext (.ref I) >>= _) _ _ s
  refine wpAny_bind (wpAny_pyNext_list_item hit hl (x := .str x t) (by rw [hv]; rfl) fun h1 it1 sb1 => ?_)
  have hS1 : h1.get? S = _ := (sb1.2 S hSI).trans hS
  show wpAny _ A.in1 (holding [Value.str x t] (setAdd S (.str x t)) >>= _) _ _ { s with heap := h1 }
  refine wpAny_bind (wpAny_holding ?_)
  unfold setAdd
  refine wpAny_holding ?_
  refine wpAny_bind ((PySem.strKind G.prog G.w).pyHash (k := x) (isS _ _) ?_)
  refine set_add1 (G := G) (s := { s with heap := h1, toks := s.toks + 1 }) hS1 fun h2 sb2 hS2 => ?_
  refine wpAny_pure ⟨plainId_quiet F.plain_set_update_loop _, ?_⟩
  refine codeAny_builtin F.entry_set_update_loop ?_
  rw [Around.under_plainId F.plain_set_update_loop _]
  show wpAny _ A.in1 (pyNext (.ref I) >>= _) _ _ { s with heap := h2, toks := s.toks + 1 }
  have it2 : h2.IsListIter I l 1 := it1.at fun o e => (sb2.2 I hSI.symm).trans e
  have hl2 : h2.IsList l items := (hl.at fun o e => (sb1.2 l hlI).trans e).at fun o e => (sb2.2 l hSl.symm).trans e
  refine wpAny_bind (wpAny_pyNext_list_end (A := A.in1) (s := { s with heap := h2, toks := s.toks + 1 }) hh it2 hl2 (by rw [hv]; rfl) fun h3 ex => ?_)
  show wpAny _ A.in1 (ret Value.none) _ _ { s with heap := h3, toks := s.toks + 1 }
  refine wpAny_pure (hR h3 _ ?_ fun b o b1 b2 e => ex b o b2 ((sb2.2 b b1).trans ((sb1.2 b b2).trans e)))
  exact ex S _ hSI hS2
theorem FN.set1 {a : Addr} {x : Str} (hh : A.handled = none) (e : σ a = some (.list [.str x])) (q : ∀ b, σ b = none → Q (.ref b) (upd σ b (.set1 x 1))) : FN G A (.type "set") [.ref a] σ Q := fun keep s xs E g r => by
  cases r with
  | cons r1 r2 => cases r1; cases r2; exact (by
      obtain ⟨ys, hpl, l, z⟩ := g.list e
      obtain ⟨t, rfl⟩ : ∃ t, ys = #[.str x t] := by
        obtain ⟨yl⟩ := ys
        cases l with
        | cons r1 r2 => cases r1; cases r2; exact ⟨_, rfl⟩
      obtain ⟨nl, hol⟩ := hpl
      obtain ⟨c, tl, hmro⟩ := F.called_set.mro
      have hmade := F.called_set.made
      have hsub := F.called_set.sub
      refine wpAny_call (codeAny_of_tree ?_)
      show wpAny _ _ (callAny (.type "set") _) _ _ _
      refine wpAny_pure ⟨Code.quiet_builtin _ (by decide +kernel), codeAny_builtin F.entry_type_call ?_⟩
      rw [Around.under_plain (weight_type_call_type "set" [.ref a] []) rfl]
      have h1 := F.called_set.notType
      have h2 := F.called_set.canCreate
      have hct := F.typeCall_set_1 (.ref a)
      repeat (any_goals (first | assumption | wp_step))
      refine codeAny_mono (set_new1 (G := G) (.ref a) (E := E) (Q₁ := fun obj s₁ => ∃ led : Bool, led = (!G.w.params.followText "set-order") ∧ obj = .ref s.heap.objs.size ∧ s₁ = { s with heap := s.heap.push { cls := .type "set", dict := none, data := .set #[] 0 (.fresh 0 0 led) } }) ⟨_, rfl, rfl, rfl⟩) fun r s₁ hr => ?_
      rcases r with er | (obj | _ | _ | _) <;> first | exact hr | exact hr.elim | skip
      obtain ⟨led, hled, rfl, rfl⟩ := hr
      have hS : (s.heap.push { cls := .type "set", dict := none, data := .set #[] 0 (.fresh 0 0 led) }).get? s.heap.objs.size = some { cls := .type "set", dict := none, data := .set #[] 0 (.fresh 0 0 led) } := Heap.get?_push_size _ rfl
      have hT : Shared.TypeIs { s with heap := s.heap.push { cls := .type "set", dict := none, data := .set #[] 0 (.fresh 0 0 led) } } (.ref s.heap.objs.size) "set" := ⟨_, hS, rfl⟩
      have hli := F.called_set.init.lookup
      have hbi := F.called_set.init.bind (.ref s.heap.objs.size)
      repeat (any_goals (first | assumption | wp_step))
      refine codeAny_mono (codeAny_call_builtin (R := wants (fun r s₂ => r = .none ∧ ∃ h' tk, s₂ = { s with heap := h', toks := tk } ∧ h'.get? s.heap.objs.size = some (setObj1 G.w x t 1 led) ∧ (∀ b o, s.heap.get? b = some o → h'.get? b = some o)) E) F.called_set.init.plain F.entry_set_init (check_set_init_1 hT ?_)) fun r₂ s₂ hr₂ => ?_
      · have hol' : (s.heap.push { cls := .type "set", dict := none, data := .set #[] 0 (.fresh 0 0 led) }).get? a = some { cls := .type "list", dict := none, data := .seq #[.str x t] nl, slots := #[] } := Heap.get?_push_of_some _ hol
        have hsls := F.sub_list_set
        have hslf := F.sub_list_frozenset
        have hne : (Value.type "list" == Value.type "dict") = false := by decide
        have hl1 : (s.heap.push { cls := .type "set", dict := none, data := .set #[] 0 (.fresh 0 0 led) }).IsList a #[.str x t] := ⟨_, hol', rfl, nl, rfl⟩
        unfold Builtin.«set.__init__» noKeywords Builtin.Frozenset.updateFrom
        generalize hPI : pyIter = PI
        wp_walk
        subst hPI
        refine wpAny_pyIter_list hl1 ?_
        refine wpAny_bind (wpAny_runValue ?_)
        have hlt : a < s.heap.objs.size := Heap.lt_size hol
        have hzz : (s.heap.push { cls := .type "set", dict := none, data := .set #[] 0 (.fresh 0 0 led) }).objs.size = s.heap.objs.size + 1 := Heap.size_push ..
        have hh3 : A.in1.in1.in1.handled = none := by simp [hh]
        refine set_loop1 (G := G) (t := t) (led := led) hh3 (by rw [hzz]; exact (Nat.succ_ne_self _).symm) (Nat.ne_of_gt hlt) (by rw [hzz]; exact Nat.ne_of_lt (Nat.lt_succ_of_lt hlt)) ⟨_, Heap.get?_push_size _ rfl, rfl, rfl⟩ (hl1.push _) rfl ?_ fun h' tk hset hk => ?_
        · exact Heap.get?_push_of_some _ hS
        · refine wpAny_pure ?_
          show wpAny _ _ (ret Value.none) _ _ _
          refine wpAny_pure ⟨rfl, h', tk, rfl, hset, fun b o eb => hk b o (Nat.ne_of_lt (Heap.lt_size eb)) (by rw [hzz]; exact Nat.ne_of_lt (Nat.lt_succ_of_lt (Heap.lt_size eb))) (Heap.get?_push_of_some _ (Heap.get?_push_of_some _ eb))⟩
      · rcases r₂ with er | (rv | _ | _ | _) <;> first | exact hr₂ | exact hr₂.elim | skip
        obtain ⟨rfl, h', tk, rfl, hS', hk'⟩ := hr₂
        repeat (any_goals (first | assumption | wp_step))
        have g' : Sg G keep (upd σ s.heap.objs.size (.set1 x 1)) { s with heap := h', toks := tk } := ⟨g.gens, g.os, g.hs.add (Heap.size_none _) (But.of hk') (.set1 hS' hled)⟩
        exact ⟨.of hk', _, _, g', .raw _, q _ (g.hs.fresh (Heap.size_none _))⟩)
theorem OP.inSet {a : Addr} {x y : Str} {ep : Nat} (e : σ a = some (.set1 y ep)) (q : Q (.bool (decide (x = y))) σ) : OP G A (compareOp .In) (.str x) (.ref a) σ Q := fun keep s u v E g rx ry => by
  cases rx; cases ry
  cases g.hs.rep a _ e with
  | @set1 _ tk _ led hS _ =>
    have hset : s.heap.SetOf (PySem.strKind G.prog G.w) a (fun k => decide (k = y)) 1 := by
      refine ⟨_, _, ep, _, hS, ⟨rfl, rfl, rfl⟩, rfl, ?_, ?_, by show 1 < 4096; (first | lia | omega), rfl, rfl⟩
      · intro e he
        rw [List.mem_singleton.mp he]
        exact ⟨⟨y, isS _ _, rfl⟩, rfl⟩
      · intro k
        constructor
        · intro hk; exact ⟨_, List.mem_singleton_self _, by rw [of_decide_eq_true hk]; exact isS _ _⟩
        · rintro ⟨e, he, hk⟩
          rw [List.mem_singleton.mp he] at hk
          exact decide_eq_true ((PySem.strKind G.prog G.w).inj _ _ _ hk (isS _ _))
    exact wpAny_inSet_of (isS _ _) rfl hset (g.pv (.bool _) q)
end
section
variable {G : Gl} {A : Around} {σ : Store} {Q : V → Store → Prop} {x y : Str}
theorem TV.dicI {a : Addr} {kvs : List (Int × V)} {ep : Nat} {Q : Bool → Store → Prop} (e : σ a = some (.dicI kvs ep)) (hz : kvs.length ≤ 1000) (q : Q (!kvs.isEmpty) σ) : TV G A (.ref a) σ Q := fun keep s x E g r => by
  cases r
  obtain ⟨h1, ks, hd, e1, rl⟩ := g.dicI e
  have hl : ks.length = kvs.length := by have := congrArg List.length e1; simpa using this
  have he : ks.isEmpty = kvs.isEmpty := by cases ks <;> cases kvs <;> first | rfl | simp at hl
  refine wpAny_truthy_dict h1 hd (by (first | lia | omega)) ?_
  rw [he]
  exact ⟨.refl _, σ, g.tok, q⟩
theorem FN.typeS (q : Q (.raw (.type "str")) σ) : FN G A (.type "type") [.str x] σ Q := fun keep s xs E g r => by
  cases r with
  | cons r1 r => cases r1; cases r; exact call_type_of (typeIs_str _ _ _) (by decide) (g.pv (tk := s.toks) (.raw _) q)
theorem rl_strsFrom {h : Heap} : ∀ (l : List Str) (k : Nat), RL G h (l.map .str) (strsFrom k l)
  | [], _ => .nil
  | _ :: l, k => .cons (.str _ _) (rl_strsFrom l (k + 1))
set_option tactic.hygienic true in
theorem FN.split (hy : (y.length == 0) = false) (hx : x.length ≤ 1000) (q : ∀ b, σ b = none → Q (.ref b) (upd σ b (.list ((Txt.split x y).map .str)))) : FN G A (.builtin "str.split") [.str x, .str y] σ Q := fun keep s xs E g r => by
  cases r with
  | cons r1 r => cases r1; cases r with
    | cons r2 r => cases r2; cases r; exact (by
        rename_i t u
        have one : ∀ tk, Txt.split x y = [x] → pv G (Sg G keep) s.heap Q (.ref s.heap.objs.size) { s with heap := s.heap.push { cls := .type "list", data := .seq [Value.str x t].toArray }, toks := tk } := fun tk e => by
          have g' := g.newList (n := 0) (vs := [.str x]) (xs := [.str x t]) (.cons (.str _ _) .nil)
          have := q _ (g.hs.fresh (Heap.size_none _))
          rw [e] at this
          exact ⟨Ext.push _ _, _, _, g'.tok, .raw _, this⟩
        cases h1 : (decide (x.length < y.length) || decide (Builtin.Str.strKind x < Builtin.Str.strKind y))
        · cases hf : (Builtin.Str.occurrences x y 0 x.length (x.length + 1)).isEmpty
          · have hs : Txt.split x y = Builtin.Str.partsBetween x (Builtin.Str.occurrences x y 0 x.length (x.length + 1)) y.length := (if_neg (ne_true_of_eq_false h1)).trans (if_neg (ne_true_of_eq_false hf))
            have hl := split_le x y
            rw [hs] at hl
            refine call_meets F.slot_str_split (typeIs_str _ _ _) F.entry_str_split (F.args_str_split_2 _ _) (meets_str_split_sep x y t u h1 hy hf (by rw [sizeLine_eq]; (first | lia | omega)) (by rw [sizeLine_eq]; (first | lia | omega))) ?_
            have g' := g.newList (n := 0) (rl_strsFrom (G := G) (h := s.heap) (Builtin.Str.partsBetween x (Builtin.Str.occurrences x y 0 x.length (x.length + 1)) y.length) s.toks)
            have hq := q _ (g.hs.fresh (Heap.size_none _))
            rw [hs] at hq
            exact ⟨Ext.push _ _, _, _, g'.tok, .raw _, hq⟩
          · exact call_meets F.slot_str_split (typeIs_str _ _ _) F.entry_str_split (F.args_str_split_2 _ _) (meets_str_split_not_found x y t u h1 hy hf) (one s.toks ((if_neg (ne_true_of_eq_false h1)).trans (if_pos hf)))
        · exact call_meets F.slot_str_split (typeIs_str _ _ _) F.entry_str_split (F.args_str_split_2 _ _) (meets_str_split_cannot_occur x y t u h1) (one s.toks (if_pos h1)))
end
theorem entry_set_iter : entryFor table "set.__iter__" = some Builtin.«frozenset.__iter__» :=
  entryFor_alias (id' := "frozenset.__iter__") (by kernel_rfl) (by first | rfl | decide +kernel | (unfold String.splitOn; simp +decide [String.splitOnAux])) (by decide +kernel) (by kernel_rfl)
theorem entry_setit_iter : entryFor table "set_iterator.__iter__" = some Builtin.«dict_keyiterator.__iter__» :=
  entryFor_alias (id' := "dict_keyiterator.__iter__") (by kernel_rfl) (by first | rfl | decide +kernel | (unfold String.splitOn; simp +decide [String.splitOnAux])) (by decide +kernel) (by kernel_rfl)
theorem slot_setit_next : Slot "set_iterator" "__next__" "set_iterator.__next__" :=
  .of (owner := "set_iterator") (n := "__next__") (by rw [typeLookup_type, builtinLookup_eq_fast]; kernel_rfl) (by decide +kernel) (by decide +kernel) (by decide +kernel) (by first | exact .inl (by decide +kernel) | exact .inr (by decide +kernel)) (by rw [isSubtype_type]; kernel_rfl)
theorem slot_setit_iter : Slot "set_iterator" "__iter__" "set_iterator.__iter__" :=
  .of (owner := "set_iterator") (n := "__iter__") (by rw [typeLookup_type, builtinLookup_eq_fast]; kernel_rfl) (by decide +kernel) (by decide +kernel) (by decide +kernel) (by first | exact .inl (by decide +kernel) | exact .inr (by decide +kernel)) (by rw [isSubtype_type]; kernel_rfl)
theorem entry_setit_next : entryFor table "set_iterator.__next__" = some Builtin.«set_iterator.__next__» := entryFor_of_tree (by kernel_rfl)
theorem args_setit_next (a : Value) : argsOk "set_iterator.__next__" ⟨[a], []⟩ := by unfold argsOk; kernel_rfl
theorem args_setit_iter (a : Value) : argsOk "set_iterator.__iter__" ⟨[a], []⟩ := by unfold argsOk; kernel_rfl
section
variable {G : Gl} {A : Around} {σ : Store} {E : Value → Shared → Prop} {s : Shared} {tg : Expr}
noncomputable abbrev setIt (a : Addr) (slot i ep : Nat) : Obj := { cls := .type "set_iterator", data := .fields #[rawInt slot, rawInt i, .ref a, rawInt 1, rawInt ep] }
theorem set_iter {a : Addr} {x : Str} {tk : Tok} {ep : Nat} {led : Bool} {Q : Value → Shared → Prop} (hS : s.heap.get? a = some (setObj1 G.w x tk ep led)) (h : Q (.ref s.heap.objs.size) { s with heap := s.heap.push (setIt a 0 0 ep) }) :
    wpAny (MM G) A (pyIter (.ref a)) Q E s := by
  have hT : s.TypeIs (.ref a) "set" := ⟨_, hS, rfl⟩
  refine wpAny_pyIter_slot hT F.slot_set_iter (wpAny_call_entry F.slot_set_iter hT entry_set_iter ?_ (F.args_set_iter_1 _))
  show wpAny _ _ (Builtin.Frozenset.sizeOf a >>= _) _ _ s
  refine wpAny_bind (wpAny_bind (wpAny_setEntries_of hS rfl rfl (wpAny_pure ?_)))
  refine wpAny_bind (wpAny_bind (wpAny_setState_of hS rfl rfl ?_))
  refine wpAny_bind (wpAny_bind (wpAny_askSetting (wpAny_pure (wpAny_pure ?_))))
  generalize hb : (!_ && _) = c
  obtain rfl : c = false := by rw [← hb]; exact Bool.and_false _
  dsimp only
  rw [if_neg Bool.false_ne_true]
  refine wpAny_bind (wpAny_pure ?_)
  refine wpAny_bind (wpAny_bind (wpAny_setState_of hS rfl rfl (wpAny_pure ?_)))
  exact wpAny_bind (wpAny_newObj_type (wpAny_pure ⟨_, rfl, "set_iterator", _, ⟨_, Heap.get?_push_size _ rfl, rfl⟩, slot_setit_next.lookup, h⟩))
theorem pick1 {α : Type} (next : Nat → Nat) (e : α) : pickOrder next #[e] = #[e] := by
  unfold pickOrder
  show pickOrder.go next 1 0 [e] #[] = _
  unfold pickOrder.go
  have : next 0 % [e].length = 0 := Nat.mod_one _
  rw [this]
  rfl
theorem below0 (p : Nat) : SetTable.below #[p] 0 = 0 := rfl
theorem below1 (p : Nat) : SetTable.below #[p] (p + 1) = 1 := by
  show SetTable.below.go #[p] (p + 1) 1 0 1 = 1
  unfold SetTable.below.go
  rw [if_pos (by decide)]
  show (if p < p + 1 then _ else _) = _
  rw [if_pos (Nat.lt_succ_self _)]
  rfl
noncomputable def slotAfter (w : World) (x : Str) : Nat := if w.params.followText "set-order" = true then 0 else SetTable.bits (hashStr w x) % 8 + 1
theorem set_next0 {a : Addr} {x : Str} {tk : Tok} {ep : Nat} {led : Bool} {Q : Option (Value × Nat) → Shared → Prop} (hS : s.heap.get? a = some (setObj1 G.w x tk ep led)) (hl : led = !G.w.params.followText "set-order") (h : Q (some (.str x tk, slotAfter G.w x)) s) : wpAny (MM G) A (setNext a 0 0 ep) Q E s := by
  unfold setNext
  refine wpAny_bind (wpAny_setState_of hS rfl rfl ?_)
  refine wpAny_bind (wpAny_bind (wpAny_askSetting (wpAny_pure ?_)))
  unfold slotAfter at h
  cases hf : G.w.params.followText "set-order" with
  | true =>
    have hf' : (MM G).w.params.followText "set-order" = true := hf
    dsimp only
    rw [hf', if_pos rfl]
    rw [hf, if_pos rfl] at h
    rw [if_neg (by simp)]
    unfold setWalk
    refine wpAny_bind (wpAny_bind (wpAny_setState_of hS rfl rfl ?_))
    refine wpAny_bind (wpAny_bind (wpAny_askSetting (wpAny_pure ?_)))
    dsimp only
    rw [hf', if_pos rfl]
    refine wpAny_bind (wpAny_askSetting (wpAny_pure (wpAny_pure ?_)))
    rw [pick1]
    exact h
  | false =>
    have hf' : (MM G).w.params.followText "set-order" = false := hf
    dsimp only
    rw [hf', if_neg (by decide)]
    rw [hf, if_neg (by decide)] at h
    rw [hf] at hl
    subst hl
    rw [if_neg]
    rotate_left
    · exact Bool.false_ne_true
    refine wpAny_bind (wpAny_of_eq (a := ()) rfl (wpAny_pure ?_))
    rw [below0]
    exact h
theorem set_next1 {a : Addr} {x : Str} {tk : Tok} {ep : Nat} {led : Bool} {Q : Option (Value × Nat) → Shared → Prop} (hS : s.heap.get? a = some (setObj1 G.w x tk ep led)) (hl : led = !G.w.params.followText "set-order") (h : Q none s) : wpAny (MM G) A (setNext a (slotAfter G.w x) 1 ep) Q E s := by
  unfold setNext
  refine wpAny_bind (wpAny_setState_of hS rfl rfl ?_)
  refine wpAny_bind (wpAny_bind (wpAny_askSetting (wpAny_pure ?_)))
  unfold slotAfter
  cases hf : G.w.params.followText "set-order" with
  | true =>
    have hf' : (MM G).w.params.followText "set-order" = true := hf
    dsimp only
    rw [hf', if_pos rfl]
    rw [if_neg (by simp)]
    unfold setWalk
    refine wpAny_bind (wpAny_bind (wpAny_setState_of hS rfl rfl ?_))
    refine wpAny_bind (wpAny_bind (wpAny_askSetting (wpAny_pure ?_)))
    dsimp only
    rw [hf', if_pos rfl]
    refine wpAny_bind (wpAny_askSetting (wpAny_pure (wpAny_pure ?_)))
    rw [pick1]
    exact h
  | false =>
    have hf' : (MM G).w.params.followText "set-order" = false := hf
    dsimp only
    rw [hf', if_neg (by decide)]
    rw [hf] at hl
    subst hl
    rw [if_neg]
    rotate_left
    · exact Bool.false_ne_true
    refine wpAny_bind (wpAny_of_eq (a := ()) rfl (wpAny_pure ?_))
    first | rw [below1] | rw [if_neg (by decide), below1]
    exact h
theorem ITV.set1 {a : Addr} {x : Str} {ep : Nat} {K : List V → (Store → Prop) → Store → Prop} (hh : A.handled = none) (hσ : σ a = some (.set1 x ep)) (k : K [.str x] (fun σ => σ a = some (.set1 x ep)) σ) : ITV G A tg (.ref a) σ K := fun keep s y E sg r => by
  cases r
  have hl : ∀ {keep σ} {s : Shared}, Sg G keep σ s → σ a = some (.set1 x ep) → ∃ tk led, s.heap.get? a = some (setObj1 G.w x tk ep led) ∧ led = !G.w.params.followText "set-order" := fun sg e => by
    cases sg.hs.rep a _ e with | set1 p l => exact ⟨_, _, p, l⟩
  obtain ⟨tk, led, hx, _⟩ := hl sg hσ
  refine set_iter hx ?_
  obtain ⟨e, w, g⟩ := newIter sg (o := setIt a 0 0 ep)
  refine ⟨e, s.heap.objs.size, [s.heap.objs.size], [.str x], fun σ => σ a = some (.set1 x ep), fun i h => h.get? s.heap.objs.size = some (setIt a (if i = 0 then 0 else slotAfter G.w x) i ep), rfl, ⟨?_, ?_, ?_, ?_, ?_⟩, Heap.get?_push_size _ rfl, w, g, hσ, k⟩
  · intro i h ho b hb
    rw [mem1 hb]
    exact ⟨_, _, ho, rfl, rfl⟩
  · exact fun i h h' p _ hk => hk _ (List.mem_singleton_self _) _ p
  · intro i v keep σ₁ s₁ Q E hi sg₁ hC hP hQ
    obtain ⟨tk, led, hy, hld⟩ := hl sg₁ hC
    match i, hi with
    | 0, hi =>
      cases hi
      have hT : s₁.TypeIs (.ref s.heap.objs.size) "set_iterator" := ⟨_, hP, rfl⟩
      unfold pyNext
      refine wpAny_bind (wpAny_attempt (wpAny_callSpecial?_slot (name := Str.ofString "__next__") hT slot_setit_next
        (wpAny_call_entry slot_setit_next hT entry_setit_next ?_ (args_setit_next _))))
      show wpAny _ _ (fieldsOf (.ref s.heap.objs.size) >>= _) _ _ s₁
      refine wpAny_bind (wpAny_fieldsOf hP rfl ?_)
      show wpAny _ _ (setEntries a >>= _) _ _ s₁
      refine wpAny_bind (wpAny_setEntries_of hy rfl rfl ?_)
      rw [if_neg (by simp)]
      show wpAny _ _ (setNext a 0 0 ep >>= _) _ _ s₁
      refine wpAny_bind (set_next0 hy hld ?_)
      refine wpAny_bind (wpAny_setField_rec hP (by simp) fun h1 e1 sb1 => ?_)
      refine wpAny_bind (wpAny_setField_rec e1 (by simp) fun h2 e2 sb2 => ?_)
      refine wpAny_pure ⟨_, rfl, wpAny_pure ⟨_, rfl, ?_⟩⟩
      refine own_plain e2 rfl (by decide) (hQ _ h2 s₁.toks ?_ (fun e => .str _ _) fun _ => e2)
      exact fun b o hb e => (sb2.2 b fun z => hb (by rw [z]; exact List.mem_singleton_self _)).trans ((sb1.2 b fun z => hb (by rw [z]; exact List.mem_singleton_self _)).trans e)
  · intro keep σ₁ s₁ Q E sg₁ hC hP hQ
    obtain ⟨tk, led, hy, hld⟩ := hl sg₁ hC
    have hT : s₁.TypeIs (.ref s.heap.objs.size) "set_iterator" := ⟨_, hP, rfl⟩
    unfold pyNext
    refine wpAny_bind (wpAny_attempt (wpAny_callSpecial?_slot (name := Str.ofString "__next__") hT slot_setit_next
      (wpAny_call_entry slot_setit_next hT entry_setit_next ?_ (args_setit_next _))))
    show wpAny _ _ (fieldsOf (.ref s.heap.objs.size) >>= _) _ _ s₁
    refine wpAny_bind (wpAny_fieldsOf hP rfl ?_)
    show wpAny _ _ (setEntries a >>= _) _ _ s₁
    refine wpAny_bind (wpAny_setEntries_of hy rfl rfl ?_)
    rw [if_neg (by simp)]
    show wpAny _ _ (setNext a (slotAfter G.w x) 1 ep >>= _) _ _ s₁
    refine wpAny_bind (set_next1 hy hld ?_)
    refine wpAny_bind (wpAny_setField_rec hP (by simp) fun h1 e1 sb1 => ?_)
    show wpAny _ _ (newExc (.type "StopIteration") [] >>= _) _ _ _
    refine wpAny_bind ?_
    simp only [newExc, newTuple]
    refine wpAny_bind (wpAny_newObj_type ?_ (by size_fits))
    refine wpAny_bind (m := firstArgMember _ _) (wpAny_of_eq (a := Value.none) (by first | rfl | (simp only [firstArgMember]; rfl)) ?_)
    refine wpAny_newObj_type ?_ (by size_fits)
    simp only [raiseNew]
    refine wpAny_bind (wpAny_handled ?_)
    rw [show A.in1.handled = none from hh]
    refine wpAny_bind (wpAny_pure (wpAny_throw ?_))
    refine wpAny_bind (wpAny_isInstance (T := "StopIteration") (b := true) ⟨_, Heap.get?_push_size _ rfl, rfl⟩ isSubtype_stop ?_)
    exact wpAny_pure (hQ _ s₁.toks (but1 ((sb1.extBut.push _).push _)))
  · intro i s₁ Q E p q
    have hT : s₁.TypeIs (.ref s.heap.objs.size) "set_iterator" := ⟨_, p, rfl⟩
    refine wpAny_pyIter_slot hT slot_setit_iter (wpAny_call_entry slot_setit_iter hT entry_setit_iter ?_ (args_setit_iter _))
    show wpAny _ _ (ret (.ref s.heap.objs.size)) _ _ s₁
    exact wpAny_pure ⟨_, rfl, "set_iterator", _, hT, slot_setit_next.lookup, q⟩
end
theorem ek1 (i : Nat) : (1 : Int) + (i : Int) = ((i + 1 : Nat) : Int) := by (first | lia | omega)
theorem hi10 {i : Nat} (h : (i : Int) < 11 - 1) : i < 10 := by (first | lia | omega)
theorem le5 {n : Nat} (h : n ≤ 11) : n ≤ 100000 := Nat.le_trans h (by decide)
local macro_rules | `(tactic| walk_at "ev1") => `(tactic| first
  | (with_reducible first | refine EX.cons ?_ | refine EX.nil ?_)
  | ((with_reducible refine ES.asg ?_ ?hx); (case hx => rfl))
  | (with_reducible first | refine ES.ret ?_ | refine ES.ite ?_ | refine ES.brk ?_ | refine ES.cont ?_)
  | ((with_reducible refine ES.expr ?_ ?hx ?hy); (case hx => rfl); (case hy => rfl))
  | (with_reducible first | refine EV.int ?_ | refine EV.cstr ?_ | refine EV.cnone ?_ | refine EV.cbool ?_)
  | ((with_reducible refine EV.loc (v := ?v) ?hv ?_ ?hk ?hd); (case hk => rfl); (case hv => first | rfl | assumption); (case hd => decide))
  | ((with_reducible refine EV.cell (v := ?v) ?hv ?_ ?hk ?hd); (case hk => rfl); (case hv => first | rfl | assumption); (case hd => decide))
  | with_reducible refine EV.bin ?_
  | ((with_reducible refine EV.cmp ?_ ?hm); (case hm => with_unfolding_all rfl))
  | ((with_reducible refine TR.cmp ?_ ?hm); (case hm => with_unfolding_all rfl))
  | (with_reducible first | refine TR.not ?_ | refine TR.and ?_ | refine TR.or ?_ | refine TR.and0 ?_ | refine TR.or0 ?_ | refine EV.iteS ?_ | refine EV.iteI ?_ | refine EV.ite ?_ | refine EV.one ?_ | refine EV.and ?_ | refine EV.or ?_ | refine EV.sub ?_ | refine EV.tup ?_ | refine EV.list ?_)
  | ((with_reducible refine EL.cons ?_ ?he); (case he => rfl))
  | with_reducible refine EL.nil ?_
  | ((with_reducible refine AS.loc ?_ ?hk); (case hk => rfl))
  | ((with_reducible refine AS.cell ?_ ?hk ?hf); (case hk => rfl); (case hf => rfl))
  | (with_reducible first | refine AS.sub ?_ | refine OP.add ?_ | refine OP.sub ?_ | refine OP.lt ?_ | refine OP.gt ?_ | refine OP.eqi ?_ | refine OP.nei ?_ | refine OP.eqs ?_ | refine OP.nes ?_ | refine OP.band ?_ | refine ifT ?_ | refine ifF ?_ | refine TV.bool ?_ | refine TV.none ?_ | refine EV.slice ?_ | refine EP.none ?_ | refine EP.some ?_)
  | ((with_reducible refine TR.val ?_ ?he); (case he => rfl)))
local macro_rules | `(tactic| walk_at "ev") => `(tactic| repeat walk_at "ev1")



theorem iteD {p : Prop} [Decidable p] {A B : Prop} (h1 : p → A) (h2 : ¬p → B) : if decide p = true then A else B := by
  by_cases h : p
  · rw [if_pos (decide_eq_true h)]; exact h1 h
  · rw [if_neg (by simp [h])]; exact h2 h
theorem iteB {b : Bool} {A B : Prop} (h1 : b = true → A) (h2 : b = false → B) : if b = true then A else B := by
  cases b
  · exact h2 rfl
  · exact h1 rfl
section
variable {G : Gl} {A : Around} {σ : Store} {Q : V → Store → Prop}
theorem GI.listN {a : Addr} {vs : List V} {v : V} {n : Nat} (e : σ a = some (.list vs)) (hv : vs[n]? = some v) (hz : vs.length ≤ 100000) (q : Q v σ) : GI G A (.ref a) (.int n) σ Q := GI.list e (Int.natCast_nonneg n) hv hz q
theorem SI.listN {a : Addr} {vs : List V} {v : V} {n : Nat} {Q : Store → Prop} (e : σ a = some (.list vs)) (hi : n < vs.length) (hz : vs.length ≤ 100000) (q : Q (upd σ a (.list (vs.set n v)))) : SI G A (.ref a) (.int n) v σ Q := SI.list e (Int.natCast_nonneg n) hi hz q
end
theorem shr1 {n : Nat} (h : 0 < n) : ((n : Int) - 1).fdiv (2 ^ (1 : Int).toNat) = ((n - 1) / 2 : Nat) := by
  show ((n : Int) - 1).fdiv 2 = _
  rw [Int.fdiv_eq_ediv_of_nonneg _ (by decide)]; (first | lia | omega)

noncomputable def sdLoop (x : Key) (s : Nat) : Nat → List Key → Nat → List Key
  | 0, ks, p => ks.set p x
  | f + 1, ks, p => if s < p then (match ks[(p - 1) / 2]? with
    | some y => if klt x y = true then sdLoop x s f (ks.set p y) ((p - 1) / 2) else ks.set p x
    | none => ks) else ks.set p x
theorem sdLoop_more (x : Key) (s : Nat) : ∀ (f : Nat) (ks : List Key) (p : Nat), p ≤ f → sdLoop x s f ks p = sdLoop x s p ks p := by
  intro f
  induction f using Nat.strongRecOn with
  | ind f ih =>
    intro ks p hp
    cases f with
    | zero => cases hp; rfl
    | succ f =>
      cases p with
      | zero => simp [sdLoop]
      | succ p =>
        rw [sdLoop, sdLoop]
        split
        · split
          · split
            · rw [ih f (Nat.lt_succ_self f) _ _ (by (first | lia | omega)), ih p (by (first | lia | omega)) _ _ (by (first | lia | omega))]
            · rfl
          · rfl
        · rfl
theorem map_get {ks : List Key} {i : Nat} {x : Key} (h : ks[i]? = some x) : (ks.map tv)[i]? = some (tv x) := by rw [List.getElem?_map, h]; rfl
theorem map_len {ks : List Key} {n : Nat} (h : ks.length ≤ n) : (ks.map tv).length ≤ n := by rw [List.length_map]; exact h
theorem siftdown {G : Gl} {A : Around} {σ : Store} {Q : V → Store → Prop} {a : Addr} {ks : List Key} {st p : Nat} {x : Key} (hr : Room A 2) (hσ : σ a = some (.list (ks.map tv))) (hz : ks.length ≤ 1000) (hx : ks[p]? = some x)
    (q : Q .none (upd σ a (.list ((sdLoop x st p ks p).map tv)))) : FN G A (.ref (G.fn 5)) [.ref a, .int st, .int p] σ Q := by
  refine FN.fn3 "heap" "startpos" "pos" hr ?_
  intro L pm cd doc A' hr'
  conv in bodyOf 5 => whnf
  walk_at "ev"
  refine GI.listN hσ (map_get hx) (map_len (by (first | lia | omega))) ?_
  walk_at "ev"
  have fin : ∀ (ρ : Rho) (n : Nat) (ks' : List Key), ρ "heap" = some (.ref a) → ρ "newitem" = some (tv x) → ρ "pos" = some (.int n) → ks'.length ≤ 1000 → n < ks'.length → sdLoop x st p ks p = ks'.set n x →
      EX G A' (envK G 5 L pm cd doc) ((bodyOf 5).drop 2) ρ (upd σ a (.list (ks'.map tv))) fun fl ρ' σ' => Q (retOf fl) σ' := by
    intro ρ n ks' e1 e3 e4 hz' hn he
    conv in (bodyOf 5).drop 2 => whnf
    walk_at "ev"
    refine SI.listN (upd_same _ _ _) (by rw [List.length_map]; exact hn) (map_len (by (first | lia | omega))) ?_
    rw [upd_upd, ← List.map_set, ← he]
    walk_at "ev"
    exact q
  refine ES.while (fun n ρ σ' => ∃ ks', ρ "heap" = some (.ref a) ∧ ρ "startpos" = some (.int st) ∧ ρ "newitem" = some (tv x) ∧ ρ "pos" = some (.int n) ∧ σ' = upd σ a (.list (ks'.map tv)) ∧ ks'.length ≤ 1000 ∧ n < ks'.length ∧ sdLoop x st p ks p = sdLoop x st n ks' n) p ?_ ?_
  · exact ⟨ks, rfl, rfl, rfl, rfl, (upd_self hσ).symm, hz, (List.getElem?_eq_some_iff.mp hx).1, rfl⟩
  · rintro n ρ σ' ⟨ks', e1, e2, e3, e4, rfl, hz', hn, hl⟩
    walk_at "ev"
    refine iteD (fun hs => ?_) fun hs => fin ρ n ks' e1 e3 e4 hz' hn ?_
    · have hs' : st < n := by (first | lia | omega)
      obtain ⟨m, rfl⟩ : ∃ m, n = m + 1 := ⟨n - 1, by (first | lia | omega)⟩
      walk_at "ev"
      refine OP.shr (by decide) ?_
      rw [shr1 (by (first | lia | omega))]
      have hm : (m + 1 - 1) / 2 < ks'.length := by (first | lia | omega)
      walk_at "ev"
      refine GI.listN (upd_same _ _ _) (map_get (List.getElem?_eq_getElem hm)) (map_len (by (first | lia | omega))) ?_
      rw [sdLoop, if_pos hs', List.getElem?_eq_getElem hm] at hl
      generalize ks'[(m + 1 - 1) / 2] = y at *
      walk_at "ev"
      refine OP.ltT hr' ?_
      walk_at "ev"
      refine iteB (fun hc => ?_) fun hc => ?_
      · walk_at "ev"
        refine SI.listN (upd_same _ _ _) (by rw [List.length_map]; exact hn) (map_len (by (first | lia | omega))) ?_
        rw [upd_upd, ← List.map_set]
        walk_at "ev"
        refine ⟨(m + 1 - 1) / 2, by (first | lia | omega), ks'.set (m + 1) y, e1, e2, e3, rfl, rfl, by rw [List.length_set]; exact hz', by rw [List.length_set]; (first | lia | omega), ?_⟩
        rw [hl]; show (if klt x y = true then _ else _) = _
        rw [if_pos hc, sdLoop_more _ _ _ _ _ (by (first | lia | omega))]
      · refine EX.nil (EX.cons (ES.brk ?_))
        refine fin _ (m + 1) ks' e1 e3 e4 hz' hn ?_
        rw [hl]; show (if klt x y = true then _ else _) = _
        rw [if_neg (by rw [hc]; decide)]
    · rw [hl]
      cases n with
      | zero => rfl
      | succ n => rw [sdLoop, if_neg (by (first | lia | omega))]
noncomputable def wb (k i : Nat) : List Stmt := match (bodyOf k)[i]? with | some (.While _ b _ _) => b | some (.For _ _ b _ _ ) => b | _ => []
theorem EX.two {G : Gl} {A : Around} {env : Env} {ρ : Rho} {σ : Store} {a b : List Stmt} {Q : F → Rho → Store → Prop} (h : EX G A env (a ++ b) ρ σ Q) : EX G A env (a ++ b) ρ σ Q := h
/-- the way down to a leaf -/
noncomputable def suLoop : Nat → List Key → Nat → List Key × Nat
  | 0, ks, p => (ks, p)
  | f + 1, ks, p => match ks[2 * p + 1]? with
    | none => (ks, p)
    | some l => match ks[2 * p + 2]? with
      | none => suLoop f (ks.set p l) (2 * p + 1)
      | some r => if klt l r = true then suLoop f (ks.set p l) (2 * p + 1) else suLoop f (ks.set p r) (2 * p + 2)
set_option tactic.hygienic true in
theorem suLoop_len : ∀ (f : Nat) (ks : List Key) (p : Nat), p < ks.length → (suLoop f ks p).1.length = ks.length ∧ (suLoop f ks p).2 < ks.length := by
  intro f
  induction f with
  | zero => intro ks p h; exact ⟨rfl, h⟩
  | succ f ih =>
    intro ks p h
    rw [suLoop]
    split
    · exact ⟨rfl, h⟩
    · next l hl =>
      have hl' := (List.getElem?_eq_some_iff.mp hl).1
      split
      · have := ih (ks.set p l) (2 * p + 1) (by rw [List.length_set]; exact hl'); rwa [List.length_set] at this
      · next r hr =>
        have hr' := (List.getElem?_eq_some_iff.mp hr).1
        split
        · have := ih (ks.set p l) (2 * p + 1) (by rw [List.length_set]; exact hl'); rwa [List.length_set] at this
        · have := ih (ks.set p r) (2 * p + 2) (by rw [List.length_set]; exact hr'); rwa [List.length_set] at this
set_option tactic.hygienic true in
theorem suLoop_more : ∀ (f g : Nat) (ks : List Key) (p : Nat), ks.length - p ≤ f → ks.length - p ≤ g → suLoop f ks p = suLoop g ks p := by
  intro f
  induction f with
  | zero =>
    intro g ks p hf hg
    cases g with
    | zero => rfl
    | succ g => rw [suLoop, suLoop, List.getElem?_eq_none (by (first | lia | omega))]
  | succ f ih =>
    intro g ks p hf hg
    cases g with
    | zero => rw [suLoop, suLoop, List.getElem?_eq_none (by (first | lia | omega))]
    | succ g =>
      rw [suLoop, suLoop]
      split
      · rfl
      · next l hl =>
        have hl' := (List.getElem?_eq_some_iff.mp hl).1
        split
        · exact ih g _ _ (by rw [List.length_set]; (first | lia | omega)) (by rw [List.length_set]; (first | lia | omega))
        · split <;> exact ih g _ _ (by rw [List.length_set]; (first | lia | omega)) (by rw [List.length_set]; (first | lia | omega))
noncomputable def siftupL (ks : List Key) (x : Key) : List Key := sdLoop x 0 (suLoop ks.length ks 0).2 ((suLoop ks.length ks 0).1.set (suLoop ks.length ks 0).2 x) (suLoop ks.length ks 0).2

noncomputable def SuI (σ : Store) (a : Addr) (ks : List Key) (x : Key) (n : Nat) (ρ : Rho) (σ' : Store) : Prop := ∃ (ks' : List Key) (p : Nat), n = ks.length - p ∧ ρ "heap" = some (.ref a) ∧ ρ "startpos" = some (.int 0) ∧ ρ "newitem" = some (tv x) ∧ ρ "endpos" = some (.int ks.length) ∧ ρ "pos" = some (.int p) ∧ ρ "childpos" = some (.int (2 * p + 1 : Nat)) ∧ σ' = upd σ a (.list (ks'.map tv)) ∧ ks'.length = ks.length ∧ p < ks.length ∧ suLoop ks.length ks 0 = suLoop ks.length ks' p
theorem siftup {G : Gl} {A : Around} {σ : Store} {Q : V → Store → Prop} {a : Addr} {ks : List Key} {x : Key} (hr : Room A 4) (hσ : σ a = some (.list (ks.map tv))) (hz : ks.length ≤ 1000) (hx : ks[0]? = some x)
    (q : Q .none (upd σ a (.list ((siftupL ks x).map tv)))) : FN G A (.ref (G.fn 6)) [.ref a, .int 0] σ Q := by
  refine FN.fn2 "heap" "pos" hr ?_
  intro L pm cd doc A' hr'
  have h0 := (List.getElem?_eq_some_iff.mp hx).1
  conv in bodyOf 6 => whnf
  walk_at "ev"
  refine EV.bf rfl ?_
  walk_at "ev"
  refine FN.len hσ (map_len (by (first | lia | omega))) ?_
  rw [List.length_map]
  walk_at "ev"
  refine GI.listN (n := 0) hσ (map_get hx) (map_len (by (first | lia | omega))) ?_
  walk_at "ev"
  refine OP.mul (.of_left (by decide)) ?_
  walk_at "ev"
  refine ES.while (SuI σ a ks x) ks.length ?_ ?_
  · exact ⟨ks, 0, rfl, rfl, rfl, rfl, rfl, rfl, rfl, (upd_self hσ).symm, rfl, h0, rfl⟩
  · rintro n ρ σ' ⟨ks', p, hn, e1, e2, e3, e4, e5, e6, rfl, hl, hp, hs⟩
    walk_at "ev"
    obtain ⟨m, hm⟩ : ∃ m, ks.length = m + 1 := ⟨ks.length - 1, by (first | lia | omega)⟩
    have step : ∀ (P : F → Rho → Store → Prop) (ρ : Rho) (c : Nat) (y : Key), (∀ ρ₂ σ₂ m, m < n → SuI σ a ks x m ρ₂ σ₂ → P .next ρ₂ σ₂) → p < c → c < ks.length → ks'[c]? = some y → suLoop ks.length ks' p = suLoop ks.length (ks'.set p y) c → ρ "heap" = some (.ref a) → ρ "startpos" = some (.int 0) → ρ "newitem" = some (tv x) → ρ "endpos" = some (.int ks.length) → ρ "pos" = some (.int p) → ρ "childpos" = some (.int c) →
      EX G A' (envK G 6 L pm cd doc) ((wb 6 4).drop 2) ρ (upd σ a (.list (ks'.map tv))) P := by
      intro P ρ c y hP hpc hc hy hsu e1 e2 e3 e4 e5 e6
      conv in ((wb 6 4).drop 2) => whnf
      walk_at "ev"
      refine GI.listN (upd_same _ _ _) (map_get hy) (map_len (by (first | lia | omega))) ?_
      walk_at "ev"
      refine SI.listN (upd_same _ _ _) (by rw [List.length_map]; (first | lia | omega)) (map_len (by (first | lia | omega))) ?_
      rw [upd_upd, ← List.map_set]
      walk_at "ev"
      refine OP.mul (.of_left (by decide)) ?_
      walk_at "ev"
      exact hP _ _ (ks.length - c) (by (first | lia | omega)) ⟨ks'.set p y, c, rfl, e1, e2, e3, e4, rfl, by show some (V.int (2 * (c : Int) + 1)) = _; congr 1, rfl, by rw [List.length_set]; exact hl, hc, hs.trans hsu⟩
    refine iteD (fun hc => ?_) fun hc => ?_
    · have hc' : 2 * p + 1 < ks'.length := by (first | lia | omega)
      obtain ⟨l, hl1⟩ : ∃ l, ks'[2 * p + 1]? = some l := ⟨_, List.getElem?_eq_getElem hc'⟩
      have su : ∀ r, ks'[2 * p + 2]? = r → suLoop ks.length ks' p = match r with | none => suLoop ks.length (ks'.set p l) (2 * p + 1) | some r => if klt l r = true then suLoop ks.length (ks'.set p l) (2 * p + 1) else suLoop ks.length (ks'.set p r) (2 * p + 2) := by
        intro r hr
        conv => lhs; rw [hm, suLoop, hl1]
        dsimp only
        rw [hr]
        cases r with
        | none => exact suLoop_more _ _ _ _ (by rw [List.length_set]; (first | lia | omega)) (by rw [List.length_set]; (first | lia | omega))
        | some r => dsimp only; split <;> exact suLoop_more _ _ _ _ (by rw [List.length_set]; (first | lia | omega)) (by rw [List.length_set]; (first | lia | omega))
      walk_at "ev"
      have e7 : ((2 * p + 1 : Nat) : Int) + 1 = ((2 * p + 2 : Nat) : Int) := by (first | lia | omega)
      rw [e7]
      refine iteD (fun hd => ?_) fun hd => ?_
      · have hd' : 2 * p + 2 < ks'.length := by (first | lia | omega)
        obtain ⟨r, hr1⟩ : ∃ r, ks'[2 * p + 2]? = some r := ⟨_, List.getElem?_eq_getElem hd'⟩
        walk_at "ev"
        refine GI.listN (upd_same _ _ _) (map_get hl1) (map_len (by (first | lia | omega))) ?_
        walk_at "ev"
        refine GI.listN (upd_same _ _ _) (map_get hr1) (map_len (by (first | lia | omega))) ?_
        refine OP.ltT hr' ?_
        refine TV.bool ?_
        cases hk : klt l r with
        | true =>
          refine EX.nil (step _ _ (2 * p + 1) l (fun ρ₂ σ₂ m h1 h2 => ⟨m, h1, h2⟩) (by (first | lia | omega)) (by (first | lia | omega)) hl1 ?_ e1 e2 e3 e4 e5 e6)
          rw [su _ hr1]; dsimp only; rw [if_pos hk]
        | false =>
          refine TR.and0 (EX.cons (ES.asg (EV.loc rfl (AS.loc (EX.nil (step _ _ (2 * p + 2) r (fun ρ₂ σ₂ m h1 h2 => ⟨m, h1, h2⟩) (by (first | lia | omega)) (by (first | lia | omega)) hr1 ?_ e1 e2 e3 e4 e5 rfl))))))
          rw [su _ hr1]; dsimp only; rw [if_neg (by rw [hk]; decide)]
      · refine EX.nil (step _ _ (2 * p + 1) l (fun ρ₂ σ₂ m h1 h2 => ⟨m, h1, h2⟩) (by (first | lia | omega)) (by (first | lia | omega)) hl1 ?_ e1 e2 e3 e4 e5 e6)
        rw [su none (List.getElem?_eq_none (by (first | lia | omega)))]
    · have hsu : suLoop ks.length ks 0 = (ks', p) := by rw [hs, hm, suLoop, List.getElem?_eq_none (by (first | lia | omega))]
      walk_at "ev"
      refine SI.listN (upd_same _ _ _) (by rw [List.length_map]; (first | lia | omega)) (map_len (by (first | lia | omega))) ?_
      rw [upd_upd, ← List.map_set]
      walk_at "ev"
      refine EV.call 5 ?_
      walk_at "ev"
      refine siftdown (st := 0) (hr'.less (by decide)) (upd_same _ _ _) (by rw [List.length_set]; (first | lia | omega)) (List.getElem?_set_self (by (first | lia | omega))) ?_
      rw [upd_upd]
      unfold siftupL at q
      rw [hsu] at q
      walk_at "ev"
      exact q
theorem sdLoop_len (x : Key) (s : Nat) : ∀ (f : Nat) (ks : List Key) (p : Nat), (sdLoop x s f ks p).length = ks.length := by
  intro f
  induction f with
  | zero => intro ks p; exact List.length_set
  | succ f ih =>
    intro ks p
    rw [sdLoop]
    split
    · split
      · split
        · rw [ih, List.length_set]
        · exact List.length_set
      · rfl
    · exact List.length_set
theorem siftupL_len {ks : List Key} {x : Key} (h : 0 < ks.length) : (siftupL ks x).length = ks.length := by
  unfold siftupL
  rw [sdLoop_len, List.length_set, (suLoop_len _ _ _ h).1]
/-- heappush -/
noncomputable def pushL (ks : List Key) (x : Key) : List Key := sdLoop x 0 ks.length (ks ++ [x]) ks.length
theorem heappush {G : Gl} {A : Around} {σ : Store} {Q : V → Store → Prop} {a : Addr} {ks : List Key} {x : Key} (hr : Room A 4) (hσ : σ a = some (.list (ks.map tv))) (hz : ks.length ≤ 900)
    (q : Q .none (upd σ a (.list ((pushL ks x).map tv)))) : FN G A (.ref (G.fn 2)) [.ref a, tv x] σ Q := by
  refine FN.fn2 "heap" "item" hr ?_
  intro L pm cd doc A' hr'
  conv in bodyOf 2 => whnf
  walk_at "ev"
  refine EV.meth "list.append" ?_
  walk_at "ev"
  refine ⟨GM.append hσ, ?_⟩
  walk_at "ev"
  refine FN.append hσ (map_len (by (first | lia | omega))) ?_
  have e1 : ks.map tv ++ [tv x] = (ks ++ [x]).map tv := by simp
  rw [e1]
  walk_at "ev"
  refine EV.call 5 ?_
  walk_at "ev"
  refine EV.bf rfl ?_
  walk_at "ev"
  refine FN.len (upd_same _ _ _) (map_len (by simp; (first | lia | omega))) ?_
  have e2 : (((ks ++ [x]).map tv).length : Int) - 1 = (ks.length : Nat) := by simp
  walk_at "ev"
  rw [e2]
  refine siftdown (st := 0) (hr'.less (by decide)) (upd_same _ _ _) (by simp; (first | lia | omega)) (x := x) (by simp) ?_
  rw [upd_upd]
  walk_at "ev"
  exact q
/-- heapreplace -/
noncomputable def replL (ks : List Key) (x : Key) : List Key := siftupL (ks.set 0 x) x
theorem heapreplace {G : Gl} {A : Around} {σ : Store} {Q : V → Store → Prop} {a : Addr} {ks : List Key} {x y : Key} (hr : Room A 6) (hσ : σ a = some (.list (ks.map tv))) (hz : ks.length ≤ 900) (h0 : ks[0]? = some y)
    (q : Q (tv y) (upd σ a (.list ((replL ks x).map tv)))) : FN G A (.ref (G.fn 4)) [.ref a, tv x] σ Q := by
  have hl := (List.getElem?_eq_some_iff.mp h0).1
  refine FN.fn2 "heap" "item" hr ?_
  intro L pm cd doc A' hr'
  conv in bodyOf 4 => whnf
  walk_at "ev"
  refine GI.listN (n := 0) hσ (map_get h0) (map_len (by (first | lia | omega))) ?_
  walk_at "ev"
  refine SI.listN (n := 0) hσ (by rw [List.length_map]; exact hl) (map_len (by (first | lia | omega))) ?_
  rw [← List.map_set]
  walk_at "ev"
  refine EV.call 6 ?_
  walk_at "ev"
  refine siftup (x := x) (hr'.less (by decide)) (upd_same _ _ _) (by rw [List.length_set]; (first | lia | omega)) (List.getElem?_set_self hl) ?_
  rw [upd_upd]
  walk_at "ev"
  exact q
/-- heappop -/
noncomputable def popL (ks : List Key) (x : Key) : List Key := if ks.isEmpty then [] else siftupL (ks.set 0 x) x
theorem heappop {G : Gl} {A : Around} {σ : Store} {Q : V → Store → Prop} {a : Addr} {ks : List Key} {x y : Key} (hr : Room A 6) (hσ : σ a = some (.list ((ks ++ [x]).map tv))) (hz : ks.length ≤ 900) (h0 : (ks ++ [x])[0]? = some y)
    (q : Q (tv y) (upd σ a (.list ((popL ks x).map tv)))) : FN G A (.ref (G.fn 3)) [.ref a] σ Q := by
  refine FN.fn1 "heap" hr ?_
  intro L pm cd doc A' hr'
  conv in bodyOf 3 => whnf
  rw [List.map_append] at hσ
  walk_at "ev"
  refine EV.meth0 "list.pop" ?_
  walk_at "ev"
  refine ⟨GM.pop hσ, ?_⟩
  refine FN.pop hσ (map_len (by (first | lia | omega))) ?_
  walk_at "ev"
  refine TV.list (upd_same _ _ _) (map_len (by (first | lia | omega))) ?_
  cases ks with
  | nil =>
    refine EX.nil ?_
    walk_at "ev"
    cases h0
    exact q
  | cons k ks =>
    cases h0
    show EX _ _ _ _ _ _ _
    walk_at "ev"
    refine GI.listN (n := 0) (upd_same _ _ _) rfl (map_len (by (first | lia | omega))) ?_
    walk_at "ev"
    refine SI.listN (n := 0) (upd_same _ _ _) (by simp) (map_len (by (first | lia | omega))) ?_
    rw [upd_upd]
    walk_at "ev"
    refine EV.call 6 ?_
    walk_at "ev"
    refine siftup (ks := x :: ks) (x := x) (hr'.less (by decide)) (upd_same _ _ _) (by have : ks.length + 1 ≤ 900 := hz; simp only [List.length_cons]; (first | lia | omega)) rfl ?_
    rw [upd_upd]
    walk_at "ev"
    exact q
noncomputable def tbl : List (List (Int × Str)) := [[(40960, "l"), (49152, "s"), (32768, "-"), (24576, "b"), (16384, "d"), (8192, "c"), (4096, "p")], [(256, "r")], [(128, "w")], [(2112, "s"), (2048, "S"), (64, "x")], [(32, "r")], [(16, "w")], [(1032, "s"), (1024, "S"), (8, "x")], [(4, "r")], [(2, "w")], [(513, "t"), (512, "T"), (1, "x")]]
noncomputable def pairV (p : Int × Str) : V := .tup [.int p.1, .str p.2]
noncomputable def rowV (r : List (Int × Str)) : V := .tup (r.map pairV)
structure GX (G : Gl) : Prop where
  ifdir : ∃ t, G.mg "S_IFDIR" = some (.int 16384 t)
  sep : ∃ t, G.mg "sep" = some (.str "/" t)
  table : ∃ y, G.mg "_filemode_table" = some y ∧ R G G.H (.tup (tbl.map rowV)) y
section
variable {G : Gl} {A : Around} {σ : Store} {Q : V → Store → Prop}
theorem ifmt {m : Int} (hr : Room A 1) (q : Q (.int (Builtin.bitAnd m 61440)) σ) : FN G A (.ref (G.fn 8)) [.int m] σ Q := by
  refine FN.fn1 "mode" hr ?_
  intro L pm cd doc A' hr'
  conv in bodyOf 8 => whnf
  walk_at "ev"
  exact q
theorem isdir (X : GX G) {m : Int} (hr : Room A 2) (q : Q (.bool (Builtin.bitAnd m 61440 == 16384)) σ) : FN G A (.ref (G.fn 16)) [.int m] σ Q := by
  refine FN.fn1 "mode" hr ?_
  intro L pm cd doc A' hr'
  conv in bodyOf 16 => whnf
  walk_at "ev"
  refine EV.call 8 ?_
  walk_at "ev"
  refine ifmt hr' ?_
  obtain ⟨t, ht⟩ := X.ifdir
  refine EV.glob ht (fun h e => .int _ _) ?_
  walk_at "ev"
  exact q
noncomputable def hit (m : Int) (i : Nat) (p : Int × Str) : Bool := if i = 0 then Builtin.bitAnd m 61440 == p.1 else Builtin.bitAnd m p.1 == p.1
noncomputable def sign (m : Int) (i : Nat) (r : List (Int × Str)) : Str := match r.find? (hit m i) with | some p => p.2 | none => if i = 0 then "?" else "-"
noncomputable def fmode (m : Int) : Str := Txt.join "" (tbl.mapIdx (sign m))
set_option tactic.hygienic true in
theorem sign_len (m : Int) (i : Nat) (r : List (Int × Str)) (hr : r ∈ tbl) : (sign m i r).length = 1 := by
  have h : ∀ r ∈ tbl, ∀ p ∈ r, p.2.length = 1 := by decide
  unfold sign
  split
  · next p hp => exact h r hr p (List.mem_of_find?_eq_some hp)
  · split <;> rfl
theorem join_ok {ss : List Str} (h : ∀ r ∈ ss, r.length = 1) (hz : ss.length ≤ 10) : (ss.map (·.length)).sum + ss.length * (Str.ofString "").length ≤ 16777216 := by
  have : (ss.map (·.length)).sum = ss.length := by
    clear hz
    induction ss with
    | nil => rfl
    | cons a ss ih => rw [List.map_cons, List.sum_cons, ih fun r hr => h r (.tail _ hr), h a (.head _), List.length_cons]; (first | lia | omega)
  rw [this, show (Str.ofString "").length = 0 from rfl]
  (first | lia | omega)
theorem filemode (X : GX G) {m : Int} (hr : Room A 3) (q : ∀ σ', (∀ a o, σ a = some o → σ' a = some o) → Q (.str (fmode m)) σ') : FN G A (.ref (G.fn 30)) [.int m] σ Q := by
  refine FN.fn1 "mode" hr ?_
  intro L pm cd doc A' hr'
  conv in bodyOf 30 => whnf
  walk_at "ev"
  refine ⟨by decide, fun a ha => ?_⟩
  walk_at "ev"
  obtain ⟨y, hy, ry⟩ := X.table
  refine ES.for (IT.enum ?_)
  walk_at "ev"
  refine EV.glob hy (fun h e => ry.ext e) ?_
  walk_at "ev"
  refine ⟨_, rfl, ITE.tup hr'.hd ?_⟩
  have hlen : (enumV (tbl.map rowV)).length = 10 := rfl
  refine ⟨fun i ρ σ' => ρ "perm" = some (.ref a) ∧ ρ "mode" = some (.int m) ∧ σ' = upd σ a (.list (((tbl.mapIdx (sign m)).take i).map .str)), ⟨rfl, rfl, rfl⟩, ?_, ?_⟩
  · rintro i v ρ σ' hv - ⟨e1, e2, rfl⟩
    obtain ⟨v, hv', rfl⟩ := enumV_get hv
    rw [List.getElem?_map] at hv'
    obtain ⟨row, hrow, rfl⟩ : ∃ row, tbl[i]? = some row ∧ rowV row = v := by
      cases h : tbl[i]? with
      | none => rw [h] at hv'; cases hv'
      | some row => rw [h] at hv'; cases hv'; exact ⟨row, rfl, rfl⟩
    have hi : i < 10 := (List.getElem?_eq_some_iff.mp hrow).1
    have hnx : (tbl.mapIdx (sign m)).take (i + 1) = (tbl.mapIdx (sign m)).take i ++ [sign m i row] := by rw [List.take_add_one, List.getElem?_mapIdx, hrow]; rfl
    have hlt : ((tbl.mapIdx (sign m)).take i).length ≤ 10 := by rw [List.length_take]; simp [tbl]; (first | lia | omega)
    generalize (tbl.mapIdx (sign m)).take i = done at *
    have fin : ∀ (ρ : Rho) (c : Str), ρ "perm" = some (.ref a) → ρ "mode" = some (.int m) → sign m i row = c → (ρ "perm" = some (.ref a) ∧ ρ "mode" = some (.int m) ∧ upd (upd σ a (.list (done.map .str))) a (.list (done.map .str ++ [.str c])) = upd σ a (.list (((tbl.mapIdx (sign m)).take (i + 1)).map .str))) := by
      intro ρ c h1 h2 hc; refine ⟨h1, h2, ?_⟩; rw [upd_upd, hnx, hc, List.map_append]; rfl
    refine AS.tup hr'.hd ?_
    refine AL.cons ?_
    walk_at "ev"
    refine AL.cons ?_
    walk_at "ev"
    refine AL.nil ?_
    walk_at "ev"
    refine ES.for (IT.val (EV.loc rfl (ITV.tup hr'.hd ?_)))
    refine ⟨fun j ρ σ' => ρ "perm" = some (.ref a) ∧ ρ "mode" = some (.int m) ∧ ρ "index" = some (.int i) ∧ σ' = upd σ a (.list (done.map .str)) ∧ row.find? (hit m i) = (row.drop j).find? (hit m i), ⟨e1, e2, rfl, rfl, rfl⟩, ?_, ?_⟩
    · rintro j v ρ σ' hv - ⟨e1, e2, e3, rfl, hf⟩
      rw [List.getElem?_map] at hv
      obtain ⟨p, hp, rfl⟩ : ∃ p, row[j]? = some p ∧ pairV p = v := by
        cases h : row[j]? with
        | none => rw [h] at hv; cases hv
        | some p => rw [h] at hv; cases hv; exact ⟨p, rfl, rfl⟩
      have hd : row.drop j = p :: row.drop (j + 1) := by
        obtain ⟨h1, h2⟩ := List.getElem?_eq_some_iff.mp hp
        rw [List.drop_eq_getElem_cons h1, h2]
      rw [hd, List.find?_cons] at hf
      refine AS.tup hr'.hd ?_
      refine AL.cons ?_
      walk_at "ev"
      refine AL.cons ?_
      walk_at "ev"
      refine AL.nil ?_
      walk_at "ev"
      have got : hit m i p = true → sign m i row = p.2 := fun hh => by rw [hh] at hf; unfold sign; rw [hf]
      have go : hit m i p = false → row.find? (hit m i) = (row.drop (j + 1)).find? (hit m i) := fun hh => by rw [hh] at hf; exact hf
      refine iteB (fun h0 => ?_) fun h0 => ?_
      · have hi0 : i = 0 := by have := eq_of_beq h0; (first | lia | omega)
        walk_at "ev"
        refine EV.call 8 ?_
        walk_at "ev"
        refine ifmt (hr'.less (by decide)) ?_
        walk_at "ev"
        refine iteB (fun hc => ?_) fun hc => ?_
        · walk_at "ev"
          refine EV.meth "list.append" ?_
          walk_at "ev"
          refine ⟨GM.append (upd_same _ _ _), ?_⟩
          walk_at "ev"
          refine FN.append (upd_same _ _ _) (by simp; (first | lia | omega)) ?_
          refine EX.cons (ES.brk (EX.nil ?_))
          exact ⟨trivial, fin _ _ e1 e2 (got (by unfold hit; rw [if_pos hi0]; exact hc))⟩
        · walk_at "ev"
          exact ⟨trivial, e1, e2, e3, rfl, go (by unfold hit; rw [if_pos hi0]; exact hc)⟩
      · have hi0 : i ≠ 0 := fun z => by subst z; cases h0
        walk_at "ev"
        refine iteB (fun hc => ?_) fun hc => ?_
        · walk_at "ev"
          refine EV.meth "list.append" ?_
          walk_at "ev"
          refine ⟨GM.append (upd_same _ _ _), ?_⟩
          walk_at "ev"
          refine FN.append (upd_same _ _ _) (by simp; (first | lia | omega)) ?_
          refine EX.cons (ES.brk (EX.nil ?_))
          exact ⟨trivial, fin _ _ e1 e2 (got (by unfold hit; rw [if_neg hi0]; exact hc))⟩
        · walk_at "ev"
          exact ⟨trivial, e1, e2, e3, rfl, go (by unfold hit; rw [if_neg hi0]; exact hc)⟩
    · rintro ρ σ' - ⟨e1, e2, e3, rfl, hf⟩
      have hf' : sign m i row = if i = 0 then Str.ofString "?" else Str.ofString "-" := by
        unfold sign; rw [hf, List.drop_of_length_le (by simp)]; rfl
      walk_at "ev"
      refine iteB (fun h0 => ?_) fun h0 => ?_
      · have hi0 : i = 0 := by have := eq_of_beq h0; (first | lia | omega)
        walk_at "ev"
        refine EV.meth "list.append" ?_
        walk_at "ev"
        refine ⟨GM.append (upd_same _ _ _), ?_⟩
        walk_at "ev"
        refine FN.append (upd_same _ _ _) (by simp; (first | lia | omega)) ?_
        walk_at "ev"
        exact ⟨trivial, fin _ _ e1 e2 (by rw [hf', if_pos hi0])⟩
      · have hi0 : i ≠ 0 := fun z => by subst z; cases h0
        walk_at "ev"
        refine EV.meth "list.append" ?_
        walk_at "ev"
        refine ⟨GM.append (upd_same _ _ _), ?_⟩
        walk_at "ev"
        refine FN.append (upd_same _ _ _) (by simp; (first | lia | omega)) ?_
        walk_at "ev"
        exact ⟨trivial, fin _ _ e1 e2 (by rw [hf', if_neg hi0])⟩
  · rintro ρ σ' - ⟨e1, e2, rfl⟩
    rw [hlen]
    have ht : (tbl.mapIdx (sign m)).take 10 = tbl.mapIdx (sign m) := by rw [List.take_of_length_le]; simp [tbl]
    rw [ht]
    walk_at "ev"
    refine EV.meth "str.join" ?_
    walk_at "ev"
    refine ⟨GM.strM PySem.F.slot_str_join PySem.F.type_str_join, ?_⟩
    walk_at "ev"
    refine FN.join (upd_same _ _ _) ?_ (q _ fun b o hb => by rw [upd_ne]; exact hb; rintro rfl; rw [ha] at hb; cases hb)
    exact join_ok (fun r hr => by
      obtain ⟨i, hi, rfl⟩ := List.mem_mapIdx.mp hr
      exact sign_len _ _ _ (List.getElem_mem _)) (by simp [tbl])
end
section
variable {G : Gl} {A : Around} {σ : Store} {Q : V → Store → Prop}
noncomputable def w1 (t : Nat) : Int := [64, 8, 1].getD t 1
noncomputable def w2 (t : Nat) : Int := [2048, 1024, 512].getD t 1
noncomputable def w3 (t : Nat) : Str := [Str.ofString "-xSs", Str.ofString "-xSs", Str.ofString "-xTt"].getD t Str.empty
noncomputable def dig (r : Int) (t : Nat) : Int := (r.fdiv (w1 t)).fmod 8
noncomputable def last (r : Int) (t : Nat) : Int := (dig r t).fmod 2 + 2 * (r.fdiv (w2 t)).fmod 2
noncomputable def rowA (r : Int) (t : Nat) : Str := if decide (3 < dig r t) = true then Str.ofString "r" else Str.ofString "-"
noncomputable def rowB (r : Int) (t : Nat) : Str := if (((dig r t).fdiv 2).fmod 2 == 1) = true then Str.ofString "w" else Str.ofString "-"
noncomputable def rowC (r : Int) (t : Nat) : Str := ⟨#[(w3 t).cps.toList.getD (last r t).toNat 0]⟩
noncomputable def rowStep (r : Int) (row : Str) (t : Nat) : Str := row ++ rowA r t ++ rowB r t ++ rowC r t
noncomputable def kindL : List (Int × V) := [(4, .str "d"), (8, .str "-"), (10, .str "l"), (12, .str "s")]
noncomputable def lrow (m : Int) (c : Str) : Str := rowStep (m.fmod 4096) (rowStep (m.fmod 4096) (rowStep (m.fmod 4096) c 0) 1) 2
theorem nth3 {t : Nat} (h : t < 3) : ([V.int 64, .int 8, .int 1] : List V)[t]? = some (.int (w1 t)) ∧ ([V.int 2048, .int 1024, .int 512] : List V)[t]? = some (.int (w2 t)) ∧ ([V.str "-xSs", .str "-xSs", .str "-xTt"] : List V)[t]? = some (.str (w3 t)) ∧ w1 t ≠ 0 ∧ (w1 t).natAbs < 1073741824 ∧ w2 t ≠ 0 ∧ (w2 t).natAbs < 1073741824 ∧ (w3 t).length = 4 := by
  match t, h with
  | 0, _ => exact ⟨rfl, rfl, rfl, by decide, by decide, by decide, by decide, rfl⟩
  | 1, _ => exact ⟨rfl, rfl, rfl, by decide, by decide, by decide, by decide, rfl⟩
  | 2, _ => exact ⟨rfl, rfl, rfl, by decide, by decide, by decide, by decide, rfl⟩
theorem last_lt (r : Int) (t : Nat) : 0 ≤ last r t ∧ last r t < 4 := by
  unfold last
  have h1 := Int.fmod_nonneg_of_pos (dig r t) (show (0 : Int) < 2 by decide)
  have h2 := Int.fmod_lt_of_pos (dig r t) (show (0 : Int) < 2 by decide)
  have h3 := Int.fmod_nonneg_of_pos (r.fdiv (w2 t)) (show (0 : Int) < 2 by decide)
  have h4 := Int.fmod_lt_of_pos (r.fdiv (w2 t)) (show (0 : Int) < 2 by decide)
  (first | lia | omega)
theorem str_len_append (x y : Str) : (x ++ y).length = x.length + y.length := by
  show (x.cps ++ y.cps).size = _
  rw [Array.size_append]; rfl
theorem rowA_len (r : Int) (t : Nat) : (rowA r t).length = 1 := by unfold rowA; split <;> rfl
theorem rowB_len (r : Int) (t : Nat) : (rowB r t).length = 1 := by unfold rowB; split <;> rfl
theorem rowC_len (r : Int) (t : Nat) : (rowC r t).length = 1 := rfl
theorem rowStep_len (r : Int) (t : Nat) (x : Str) : (rowStep r x t).length = x.length + 3 := by
  unfold rowStep; rw [str_len_append, str_len_append, str_len_append, rowA_len, rowB_len, rowC_len]
theorem law_row {m : Int} {c : Str} (hr : Room A 2) (hc : c.length = 1) (hk : vat kindL (m.fdiv 4096) = some (.str c)) (q : ∀ σ', (∀ a o, σ a = some o → σ' a = some o) → Q (.str (lrow m c)) σ') : FN G A (.ref (G.fn 42)) [.int m] σ Q := by
  refine FN.fn1 "mode" hr ?_
  intro L pm cd doc A' hr'
  conv in bodyOf 42 => whnf
  walk_at "ev"
  refine OP.mod (by decide) ?_
  walk_at "ev"
  refine EV.dictI kindL rfl rfl rfl (by decide) (by decide) fun d ep hd => ?_
  walk_at "ev"
  refine OP.fdiv (by decide) (by decide) ?_
  refine GI.dicI (upd_same _ _ _) hk ?_
  walk_at "ev"
  refine ES.for (IT.val (EV.bt rfl ?_))
  walk_at "ev"
  refine FN.range1 (ITV.zs hr'.hd (by decide) (by decide) (by decide) ?_)
  have hlen : (zseq 0 3).length = 3 := rfl
  have keepσ : ∀ a o, σ a = some o → upd σ d (.dicI kindL ep) a = some o := fun b o hb => by rw [upd_ne]; exact hb; rintro rfl; rw [hd] at hb; cases hb
  generalize upd σ d (.dicI kindL ep) = σ₁ at *
  refine ⟨fun i ρ σ' => σ' = σ₁ ∧ ρ "rights" = some (.int (m.fmod 4096)) ∧ ρ "row" = some (.str ((List.range i).foldl (rowStep (m.fmod 4096)) c)) ∧ ((List.range i).foldl (rowStep (m.fmod 4096)) c).length = 1 + 3 * i, ⟨rfl, rfl, rfl, hc⟩, ?_, ?_⟩
  · rintro t v ρ σ' hv - ⟨rfl, e1, e2, hz⟩
    obtain ⟨rfl, ht⟩ := zseq_get hv
    have ht' : t < 3 := by (first | lia | omega)
    obtain ⟨n1, n2, n3, n4, n5, n6, n7, n8⟩ := nth3 ht'
    have hstep : (List.range (t + 1)).foldl (rowStep (m.fmod 4096)) c = rowStep (m.fmod 4096) ((List.range t).foldl (rowStep (m.fmod 4096)) c) t := by rw [List.range_succ, List.foldl_append]; rfl
    rw [Int.zero_add]
    walk_at "ev"
    refine ⟨by decide, ?_⟩
    walk_at "ev"
    refine GI.tup (Int.natCast_nonneg t) n1 (by decide) ?_
    refine OP.fdiv n4 n5 ?_
    walk_at "ev"
    refine OP.mod (by decide) ?_
    walk_at "ev"
    refine OP.mod (by decide) ?_
    walk_at "ev"
    refine ⟨by decide, ?_⟩
    walk_at "ev"
    refine GI.tup (Int.natCast_nonneg t) n2 (by decide) ?_
    refine OP.fdiv n6 n7 ?_
    walk_at "ev"
    refine OP.mod (by decide) ?_
    refine OP.mul (.of_left (by decide)) ?_
    walk_at "ev"
    generalize hrow : (List.range t).foldl (rowStep (m.fmod 4096)) c = row at *
    have hA := rowA_len (m.fmod 4096) t
    have hB := rowB_len (m.fmod 4096) t
    refine OP.cat (y := rowA (m.fmod 4096) t) (by (first | lia | omega)) ?_
    walk_at "ev"
    refine OP.fdiv (by decide) (by decide) ?_
    walk_at "ev"
    refine OP.mod (by decide) ?_
    walk_at "ev"
    refine OP.cat (y := rowB (m.fmod 4096) t) (by rw [str_len_append]; (first | lia | omega)) ?_
    walk_at "ev"
    refine ⟨by decide, ?_⟩
    walk_at "ev"
    refine GI.tup (Int.natCast_nonneg t) n3 (by decide) ?_
    obtain ⟨l0, l1⟩ := last_lt (m.fmod 4096) t
    have hch : (w3 t).cps.toList[(last (m.fmod 4096) t).toNat]? = some ((w3 t).cps.toList.getD (last (m.fmod 4096) t).toNat 0) := by
      have h4 : (w3 t).cps.toList.length = 4 := n8
      rw [List.getD_eq_getElem?_getD, List.getElem?_eq_getElem (by (first | lia | omega))]; rfl
    walk_at "ev"
    refine GI.str (i := last (m.fmod 4096) t) l0 hch (by (first | lia | omega)) ?_
    refine OP.cat (y := rowC (m.fmod 4096) t) (by rw [str_len_append, str_len_append, rowC_len]; (first | lia | omega)) ?_
    walk_at "ev"
    refine ⟨trivial, rfl, e1, ?_, ?_⟩
    · rw [hstep]; rfl
    · rw [hstep, rowStep_len]; (first | lia | omega)
  · rintro ρ σ' - ⟨rfl, e1, e2, hz⟩
    walk_at "ev"
    exact q _ keepσ
end
section
variable {G : Gl} {A : Around} {σ : Store} {Q : V → Store → Prop}
noncomputable def nms : List Str := ["a", "ab", "b", "ba", "c", "ca", "d", "da", "e", "ea"].map Str.ofString
noncomputable def nm (k : Nat) : Str := nms.getD (k - 1) Str.empty
theorem nms_get {k : Nat} (h : k < 10) : nms[k]? = some (nm (k + 1)) := by
  unfold nm
  rw [List.getD_eq_getElem?_getD, Nat.add_sub_cancel, List.getElem?_eq_getElem (show k < nms.length from h)]; rfl
theorem called {k : Nat} (hr : Room A 1) (h : k < 10) (q : ∀ σ', Sub σ σ' → Q (.str (nm (k + 1))) σ') : FN G A (.ref (G.fn 43)) [.int (k + 1 : Nat)] σ Q := by
  refine FN.fn1 "k" hr ?_
  intro L pm cd doc A' hr'
  conv in bodyOf 43 => whnf
  walk_at "ev"
  refine ⟨by decide, fun a ha => ?_⟩
  walk_at "ev"
  have e : ((k + 1 : Nat) : Int) - 1 = (k : Nat) := by (first | lia | omega)
  rw [e]
  refine GI.listN (vs := nms.map .str) (upd_same _ _ _) (by rw [List.getElem?_map, nms_get h]; rfl) (by decide) ?_
  exact q _ (Sub.new ha _)
noncomputable def chainF (p : Nat → Nat) : Nat → Nat → List Nat
  | 0, _ => []
  | f + 1, k => if k = 0 then [] else chainF p f (p k) ++ [k]
noncomputable def chain (p : Nat → Nat) (k : Nat) : List Nat := chainF p k k
theorem chainF_more (p : Nat → Nat) (n : Nat) (hp : ∀ k, 0 < k → k ≤ n → p k < k) : ∀ f k, k ≤ n → k ≤ f → chainF p f k = chainF p k k := by
  intro f
  induction f using Nat.strongRecOn with
  | ind f ih =>
    intro k hn hk
    cases k with
    | zero => cases f <;> rfl
    | succ k =>
      cases f with
      | zero => (first | lia | omega)
      | succ f =>
        have := hp (k + 1) (by (first | lia | omega)) hn
        rw [chainF, chainF, ih f (by (first | lia | omega)) _ (by (first | lia | omega)) (by (first | lia | omega)), ih k (by (first | lia | omega)) _ (by (first | lia | omega)) (by (first | lia | omega))]
theorem chain_succ {p : Nat → Nat} {n k : Nat} (hp : ∀ k, 0 < k → k ≤ n → p k < k) (h0 : 0 < k) (hk : k ≤ n) : chain p k = chain p (p k) ++ [k] := by
  obtain ⟨j, rfl⟩ : ∃ j, k = j + 1 := ⟨k - 1, by (first | lia | omega)⟩
  have := hp (j + 1) h0 hk
  unfold chain
  rw [chainF, if_neg (by (first | lia | omega)), chainF_more p n hp j _ (by (first | lia | omega)) (by (first | lia | omega))]
theorem chain_zero (p : Nat → Nat) : chain p 0 = [] := rfl
theorem chain_len {p : Nat → Nat} {n : Nat} (hp : ∀ k, 0 < k → k ≤ n → p k < k) : ∀ k, k ≤ n → (chain p k).length ≤ k := by
  intro k
  induction k using Nat.strongRecOn with
  | ind k ih =>
    intro hk
    cases k with
    | zero => exact Nat.le_refl _
    | succ k =>
      have := hp (k + 1) (by (first | lia | omega)) hk
      rw [chain_succ hp (by (first | lia | omega)) hk, List.length_append]
      have := ih _ this (by (first | lia | omega))
      simp; (first | lia | omega)
noncomputable def nls (l : List Nat) : List V := l.map fun (k : Nat) => .int k
/-- a list of lists of numbers -/
noncomputable def LL (σ : Store) (c : Addr) (n : Nat) (f : Nat → List Nat) : Prop := ∃ as : List Addr, σ c = some (.list (as.map .ref)) ∧ as.length = n ∧ ∀ j a, as[j]? = some a → a ≠ c ∧ σ a = some (.list (nls (f j)))
theorem chains {p : Nat → Nat} (hp : ∀ k, 0 < k → k ≤ 10 → p k < k) {pa : Addr} {p0 : Nat} (hr : Room A 1) (hpa : σ pa = some (.list (nls (p0 :: (List.range 10).map fun k => p (k + 1)))))
    (q : ∀ c σ', Sub σ σ' → LL σ' c 11 (chain p) → Q (.ref c) σ') : FN G A (.ref (G.fn 44)) [.ref pa] σ Q := by
  refine FN.fn1 "parents" hr ?_
  intro L pm cd doc A' hr'
  conv in bodyOf 44 => whnf
  walk_at "ev"
  refine ⟨by decide, fun a ha => ?_⟩
  walk_at "ev"
  refine ⟨Nat.le_of_ble_eq_true rfl, fun c hc => ?_⟩
  have hca : c ≠ a := by rintro rfl; rw [upd_same] at hc; cases hc
  rw [upd_ne _ _ hca] at hc
  walk_at "ev"
  refine ES.for (IT.val (EV.bt rfl ?_))
  walk_at "ev"
  refine FN.range2 (ITV.zs hr'.hd (by decide) (by decide) (by decide) ?_)
  have hlen : (zseq 1 11).length = 10 := rfl
  refine ⟨fun i ρ σ' => ρ "chains" = some (.ref c) ∧ ρ "parents" = some (.ref pa) ∧ Sub σ σ' ∧ LL σ' c (i + 1) (chain p), ⟨rfl, rfl, (Sub.new ha _).put hc _, [a], upd_same _ _ _, rfl, ?_⟩, ?_, ?_⟩
  · intro j b hb
    cases j with
    | zero => cases hb; refine ⟨hca.symm, ?_⟩; rw [upd_ne _ _ hca.symm]; exact upd_same _ _ _
    | succ j => cases hb
  · rintro i v ρ σ₁ hv - ⟨e1, e2, hs, as, h1, h2, h3⟩
    obtain ⟨rfl, hi⟩ := zseq_get hv
    have hi' : i < 10 := hi10 hi
    have hpi := hp (i + 1) (by (first | lia | omega)) (by (first | lia | omega))
    have ek := ek1 i
    rw [ek]
    walk_at "ev"
    refine EV.meth "list.append" ?_
    walk_at "ev"
    refine ⟨GM.append h1, ?_⟩
    walk_at "ev"
    refine GI.listN (v := .int (p (i + 1) : Nat)) (hs _ _ hpa) (by unfold nls; rw [List.getElem?_map, List.getElem?_cons_succ, List.getElem?_map, List.getElem?_range hi']; rfl) (by simp [nls]) ?_
    obtain ⟨b, hb⟩ : ∃ b, as[p (i + 1)]? = some b := ⟨_, List.getElem?_eq_getElem (by (first | lia | omega))⟩
    refine GI.listN (v := .ref b) h1 (by rw [List.getElem?_map, hb]; rfl) (by rw [List.length_map]; (first | lia | omega)) ?_
    walk_at "ev"
    refine ⟨Nat.le_of_ble_eq_true rfl, fun d hd => ?_⟩
    have cl := chain_len hp (p (i + 1)) (by (first | lia | omega))
    refine OP.addL (b := d) ((Sub.new hd _) _ _ (h3 _ _ hb).2) (upd_same _ _ _) (by unfold nls; rw [List.length_map]; show _ + 1 ≤ _; (first | lia | omega)) fun e he => ?_
    have hcd : c ≠ d := by rintro rfl; rw [h1] at hd; cases hd
    have hce : c ≠ e := by rintro rfl; rw [upd_ne _ _ hcd, h1] at he; cases he
    have hde : d ≠ e := by rintro rfl; rw [upd_same] at he; cases he
    have he' : σ₁ e = none := by rw [upd_ne _ _ hde.symm] at he; exact he
    walk_at "ev"
    refine FN.append (vs := as.map .ref) (by rw [upd_ne _ _ hce, upd_ne _ _ hcd]; exact h1) (by rw [List.length_map]; (first | lia | omega)) ?_
    walk_at "ev"
    have hsub : Sub σ₁ (upd (upd σ₁ d (.list [.int (i + 1 : Nat)])) e (.list (nls (chain p (p (i + 1))) ++ [.int (i + 1 : Nat)]))) := (Sub.new hd _).trans (Sub.new he _)
    refine ⟨trivial, e1, e2, ((hs.put (hs.gone hd) _).put (hs.gone he') _).put hc _, as ++ [e], by rw [List.map_append]; exact upd_same _ _ _, by rw [List.length_append, h2]; rfl, ?_⟩
    intro j b hb
    rcases Nat.lt_trichotomy j as.length with hj | hj | hj
    · rw [List.getElem?_append_left hj] at hb
      refine ⟨(h3 j b hb).1, ?_⟩
      rw [upd_ne _ _ (h3 j b hb).1]
      exact hsub _ _ (h3 j b hb).2
    · subst hj
      rw [List.getElem?_append_right (Nat.le_refl _), Nat.sub_self] at hb
      cases hb
      refine ⟨hce.symm, ?_⟩
      rw [upd_ne _ _ hce.symm, upd_same, h2, chain_succ (k := i + 1) hp (by (first | lia | omega)) (by (first | lia | omega))]
      unfold nls
      rw [List.map_append]
      rfl
    · rw [List.getElem?_eq_none (by rw [List.length_append]; simp; (first | lia | omega))] at hb; cases hb
  · rintro ρ σ₁ - ⟨e1, e2, hs, hl⟩
    walk_at "ev"
    exact q _ _ hs hl
noncomputable def pathS (l : List Nat) : Str := Txt.join "" (l.map fun k => Str.ofString "/" ++ nm k)
theorem nm_len (k : Nat) : (nm k).length ≤ 2 := by
  by_cases h : k - 1 < 10
  · have : ∀ j : Fin 10, (nms.getD j Str.empty).length ≤ 2 := by decide
    exact this ⟨k - 1, h⟩
  · unfold nm; rw [List.getD_eq_getElem?_getD, List.getElem?_eq_none (by simpa [nms] using h)]; decide
theorem join_ok' {ss : List Str} (h : ∀ r ∈ ss, r.length ≤ 100) (hz : ss.length ≤ 1000) : (ss.map (·.length)).sum + ss.length * (Str.ofString "").length ≤ 16777216 := by
  have : (ss.map (·.length)).sum ≤ ss.length * 100 := by
    clear hz
    induction ss with
    | nil => exact Nat.le_refl _
    | cons a ss ih => rw [List.map_cons, List.sum_cons, List.length_cons]; have := ih fun r hr => h r (.tail _ hr); have := h a (.head _); (first | lia | omega)
  rw [show (Str.ofString "").length = 0 from rfl]
  (first | lia | omega)
theorem law_path {l : List Nat} {a : Addr} (hr : Room A 3) (hl : ∀ k ∈ l, 0 < k ∧ k ≤ 10) (hz : l.length ≤ 10) (ha : σ a = some (.list (nls l))) (q : ∀ σ', Sub σ σ' → Q (.str (pathS l)) σ') : FN G A (.ref (G.fn 45)) [.ref a] σ Q := by
  refine FN.fn1 "chain" hr ?_
  intro L pm cd doc A' hr'
  conv in bodyOf 45 => whnf
  walk_at "ev"
  refine EV.meth "str.join" ?_
  walk_at "ev"
  refine ⟨GM.strM PySem.F.slot_str_join PySem.F.type_str_join, ?_⟩
  walk_at "ev"
  refine EV.lc [] ?_ (hfr := trivial) (hsee := fun _ h => absurd h List.not_mem_nil)
  refine IT.val (EV.loc rfl (ITV.list hr'.hd ha ?_))
  refine ⟨fun i acc σ' => Sub σ σ' ∧ acc = ((l.take i).map fun k => Str.ofString "/" ++ nm k).map .str, by unfold nls; rw [List.length_map]; (first | lia | omega), ⟨Sub.refl _, rfl⟩, ?_, ?_⟩
  · rintro L' i v acc σ₁ hv hC ⟨hs, rfl⟩
    unfold nls at hv
    rw [List.getElem?_map] at hv
    obtain ⟨k, hk, rfl⟩ : ∃ k, l[i]? = some k ∧ V.int (k : Nat) = v := by
      cases h : l[i]? with
      | none => rw [h] at hv; cases hv
      | some k => rw [h] at hv; cases hv; exact ⟨k, rfl, rfl⟩
    obtain ⟨k0, k1⟩ := hl k (List.mem_of_getElem? hk)
    obtain ⟨j, rfl⟩ : ∃ j, k = j + 1 := ⟨k - 1, by (first | lia | omega)⟩
    walk_at "ev"
    refine IFS.nil (ifT ?_)
    walk_at "ev"
    refine EV.call 43 ?_
    walk_at "ev"
    refine called (hr'.less (by decide)) (by (first | lia | omega)) fun σ₂ s2 => ?_
    refine OP.cat (by have := nm_len (j + 1); show 1 + _ ≤ _; (first | lia | omega)) ?_
    refine ⟨s2 _ _ hC, hs.trans s2, ?_⟩
    rw [List.take_add_one, hk, List.map_append, List.map_append]; rfl
  · rintro acc σ₁ - hC ⟨hs, rfl⟩ b hb
    have hlen : (nls l).length = l.length := by unfold nls; rw [List.length_map]
    rw [hlen, List.take_of_length_le (Nat.le_refl _)]
    walk_at "ev"
    refine FN.join (upd_same _ _ _) (join_ok' (fun r hr => ?_) (by rw [List.length_map]; (first | lia | omega))) (q _ (hs.trans (Sub.new hb _)))
    obtain ⟨k, _, rfl⟩ := List.mem_map.mp hr
    rw [str_len_append]
    have := nm_len k
    show 1 + _ ≤ _
    (first | lia | omega)
noncomputable def entersI (m : Int) : Bool := m.fdiv 4096 == 4 && decide (0 < (m.fmod 4096).fmod 2 + ((m.fmod 4096).fdiv 8).fmod 2 + ((m.fmod 4096).fdiv 64).fmod 2)
theorem enters {m : Int} (hr : Room A 1) (q : Q (.bool (entersI m)) σ) : FN G A (.ref (G.fn 47)) [.int m] σ Q := by
  refine FN.fn1 "mode" hr ?_
  intro L pm cd doc A' hr'
  conv in bodyOf 47 => whnf
  walk_at "ev"
  refine OP.mod (by decide) ?_
  walk_at "ev"
  refine OP.fdiv (by decide) (by decide) ?_
  walk_at "ev"
  unfold entersI at q
  refine iteB (fun h => ?_) fun h => ?_
  · rw [h, Bool.true_and] at q
    walk_at "ev"
    refine OP.mod (by decide) ?_
    walk_at "ev"
    refine OP.fdiv (by decide) (by decide) ?_
    walk_at "ev"
    refine OP.mod (by decide) ?_
    walk_at "ev"
    refine OP.fdiv (by decide) (by decide) ?_
    walk_at "ev"
    refine OP.mod (by decide) ?_
    walk_at "ev"
    exact q
  · rw [h, Bool.false_and] at q
    rw [h]
    exact q
end
section
variable {G : Gl} {A : Around} {σ : Store} {Q : V → Store → Prop}
theorem FN.lenI {vs : List V} (hz : vs.length ≤ 10000) (q : Q (.int vs.length) σ) : FN G A (.builtin "len") [.lst vs] σ Q := fun keep s xs E g r => by
  cases r with
  | cons r1 r2 => cases r2; cases r1 with
    | lst _ he hc rl =>
      have z := rl.size
      refine PyProof.Rows.len_list ⟨_, he, hc.1, _, hc.2⟩ (by (first | lia | omega)) ?_
      rw [z]
      exact g.pv (.int _ _) q
noncomputable def ivs (l : List Int) : List V := l.map .int
theorem ivs_get {l : List Int} {i : Nat} (h : i < l.length) : (ivs l)[i]? = some (.int (l.getD i 0)) := by
  unfold ivs; rw [List.getElem?_map, List.getD_eq_getElem?_getD, List.getElem?_eq_getElem h]; rfl
noncomputable def kinds8 : List Int := [4, 4, 8, 4, 4, 10, 4, 12]
noncomputable def parD (vals : List Int) (k : Nat) : Nat := ((vals.getD (k - 1) 0).fmod k).toNat
noncomputable def modD (vals : List Int) (k : Nat) : Int := kinds8.getD (((vals.getD (k - 1) 0).fdiv k).fmod 8).toNat 0 * 4096 + (((vals.getD (k - 1) 0).fdiv k).fdiv 8).fmod 4096
theorem drawn {ns : List Int} (hr : Room A 1) (hz : ns.length ≤ 63) (q : ∀ vals pa ma σ', vals.length = 12 → Sub σ σ' → pa ≠ ma → σ' pa = some (.list (nls (0 :: (List.range 10).map fun k => parD vals (k + 1)))) → σ' ma = some (.list (ivs (0 :: (List.range 10).map fun k => modD vals (k + 1)))) → Q (.tup [.ref pa, .ref ma, .int (vals.getD 10 0), .int (vals.getD 11 0)]) σ') :
    FN G A (.ref (G.fn 41)) [.lst (ivs ns)] σ Q := by
  refine FN.fn1 "script" hr ?_
  intro L pm cd doc A' hr'
  conv in bodyOf 41 => whnf
  walk_at "ev"
  refine ⟨by decide, fun a ha => ?_⟩
  walk_at "ev"
  refine ES.for (IT.val (EV.bt rfl ?_))
  walk_at "ev"
  refine EV.bf rfl ?_
  walk_at "ev"
  have hzl : (ivs ns).length = ns.length := by unfold ivs; rw [List.length_map]
  refine FN.lenI (by (first | lia | omega)) ?_
  walk_at "ev"
  refine FN.range1 (ITV.zs hr'.hd (by decide) (by (first | lia | omega)) (by (first | lia | omega)) ?_)
  refine ⟨fun i ρ σ' => ∃ vals : List Int, vals.length = 12 ∧ ρ "vals" = some (.ref a) ∧ ρ "script" = some (.lst (ivs ns)) ∧ σ' = upd σ a (.list (ivs vals)), ⟨[3656, 5842, 9217, 14339, 19737, 24569, 142325, 59671, 26300, 40939, 4, 56], rfl, rfl, rfl, rfl⟩, ?_, ?_⟩
  · rintro i v ρ σ₁ hv - ⟨vals, hl, e1, e2, rfl⟩
    obtain ⟨rfl, hi⟩ := zseq_get hv
    have hi' : i < ns.length := by (first | lia | omega)
    rw [Int.zero_add]
    have hlv : (ivs vals).length = 12 := by unfold ivs; rw [List.length_map]; exact hl
    have em : (i : Int).fmod 12 = (i % 12 : Nat) := by rw [Int.fmod_eq_emod_of_nonneg _ (by decide)]; (first | lia | omega)
    have hm : i % 12 < 12 := Nat.mod_lt _ (by decide)
    walk_at "ev"
    refine OP.mod (by decide) ?_
    rw [em]
    refine GI.listN (upd_same _ _ _) (ivs_get (by (first | lia | omega))) (by (first | lia | omega)) ?_
    walk_at "ev"
    refine GI.lst (Int.natCast_nonneg i) (ivs_get hi') (by (first | lia | omega)) ?_
    walk_at "ev"
    refine OP.mod (by decide) ?_
    rw [em]
    refine SI.listN (upd_same _ _ _) (by (first | lia | omega)) (by (first | lia | omega)) ?_
    rw [upd_upd]
    walk_at "ev"
    exact ⟨trivial, vals.set (i % 12) (vals.getD (i % 12) 0 + ns.getD i 0), List.length_set.trans hl, e1, e2, by unfold ivs; rw [List.map_set]; rfl⟩
  · rintro ρ σ₁ - ⟨vals, hl, e1, e2, rfl⟩
    have hlv : (ivs vals).length = 12 := by unfold ivs; rw [List.length_map]; exact hl
    walk_at "ev"
    refine ⟨by decide, fun pa hpa => ?_⟩
    walk_at "ev"
    refine ⟨by decide, fun ma hma => ?_⟩
    walk_at "ev"
    refine ES.for (IT.val (EV.bt rfl ?_))
    walk_at "ev"
    refine FN.range2 (ITV.zs hr'.hd (by decide) (by decide) (by decide) ?_)
    have hlen : (zseq 1 11).length = 10 := rfl
    have hap : a ≠ pa := by rintro rfl; rw [upd_same] at hpa; cases hpa
    have hpm : pa ≠ ma := by rintro rfl; rw [upd_same] at hma; cases hma
    have ham : a ≠ ma := by rintro rfl; rw [upd_ne _ _ hap, upd_same] at hma; cases hma
    have hpa' : σ pa = none := by rw [upd_ne _ _ hap.symm] at hpa; exact hpa
    have hma' : σ ma = none := by rw [upd_ne _ _ hpm.symm, upd_ne _ _ ham.symm] at hma; exact hma
    refine ⟨fun i ρ σ' => ρ "vals" = some (.ref a) ∧ ρ "parents" = some (.ref pa) ∧ ρ "modes" = some (.ref ma) ∧ Sub σ σ' ∧ σ' a = some (.list (ivs vals)) ∧ σ' pa = some (.list (nls (0 :: (List.range i).map fun k => parD vals (k + 1)))) ∧ σ' ma = some (.list (ivs (0 :: (List.range i).map fun k => modD vals (k + 1)))), ⟨e1, rfl, rfl, (((Sub.new ha _).put hpa' _).put hma' _), ?_, ?_, upd_same _ _ _⟩, ?_, ?_⟩
    · rw [upd_ne _ _ ham, upd_ne _ _ hap]; exact upd_same _ _ _
    · rw [upd_ne _ _ hpm]; exact upd_same _ _ _
    · rintro i v ρ σ₁ hv - ⟨e1, e2, e3, hs, h1, h2, h3⟩
      obtain ⟨rfl, hi⟩ := zseq_get hv
      have hi' : i < 10 := hi10 hi
      have ek := ek1 i
      have ek' : ((i + 1 : Nat) : Int) - 1 = (i : Nat) := by (first | lia | omega)
      have hvi : (ivs vals)[i]? = some (.int (vals.getD (i + 1 - 1) 0)) := ivs_get (by (first | lia | omega))
      have hk0 : ((i + 1 : Nat) : Int) ≠ 0 := by (first | lia | omega)
      have hkb : ((i + 1 : Nat) : Int).natAbs < 1073741824 := by (first | lia | omega)
      rw [ek]
      walk_at "ev"
      rw [ek']
      refine GI.listN h1 hvi (by (first | lia | omega)) ?_
      walk_at "ev"
      refine OP.fdiv hk0 hkb ?_
      walk_at "ev"
      refine EV.meth "list.append" ?_
      walk_at "ev"
      refine ⟨GM.append h2, ?_⟩
      walk_at "ev"
      rw [ek']
      refine GI.listN h1 hvi (by (first | lia | omega)) ?_
      walk_at "ev"
      refine OP.mod hk0 ?_
      walk_at "ev"
      refine FN.append h2 (by simp [nls]; (first | lia | omega)) ?_
      walk_at "ev"
      refine EV.meth "list.append" ?_
      walk_at "ev"
      have h3' : upd σ₁ pa (.list (nls (0 :: (List.range i).map fun k => parD vals (k + 1)) ++ [.int ((vals.getD (i + 1 - 1) 0).fmod (i + 1 : Nat))])) ma = some (.list (ivs (0 :: (List.range i).map fun k => modD vals (k + 1)))) := by rw [upd_ne _ _ hpm.symm]; exact h3
      refine ⟨GM.append h3', ?_⟩
      walk_at "ev"
      refine ⟨by decide, ?_⟩
      walk_at "ev"
      refine OP.mod (by decide) ?_
      have hm1 := Int.fmod_nonneg_of_pos ((vals.getD (i + 1 - 1) 0).fdiv (i + 1 : Nat)) (show (0 : Int) < 8 by decide)
      have hm2 := Int.fmod_lt_of_pos ((vals.getD (i + 1 - 1) 0).fdiv (i + 1 : Nat)) (show (0 : Int) < 8 by decide)
      refine GI.tup (vs := ivs kinds8) hm1 (ivs_get (by show _ < 8; (first | lia | omega))) (by decide) ?_
      walk_at "ev"
      refine OP.mul (.of_right (by decide)) ?_
      walk_at "ev"
      refine OP.fdiv (by decide) (by decide) ?_
      walk_at "ev"
      refine OP.mod (by decide) ?_
      walk_at "ev"
      refine FN.append h3' (by simp [ivs]; (first | lia | omega)) ?_
      walk_at "ev"
      have hp0 : ((vals.getD (i + 1 - 1) 0).fmod (i + 1 : Nat)) = ((parD vals (i + 1) : Nat) : Int) := by
        unfold parD; exact (Int.toNat_of_nonneg (Int.fmod_nonneg_of_pos _ (by (first | lia | omega)))).symm
      refine ⟨trivial, e1, e2, e3, (hs.put hpa' _).put hma' _, ?_, ?_, ?_⟩
      · rw [upd_ne _ _ ham, upd_ne _ _ hap]; exact h1
      · rw [upd_ne _ _ hpm, upd_same, hp0, List.range_succ, List.map_append]; unfold nls; rw [List.map_cons, List.map_cons, List.map_append]; rfl
      · rw [upd_same, List.range_succ, List.map_append]; unfold ivs; rw [List.map_cons, List.map_cons, List.map_append]; rfl
    · rintro ρ σ₁ - ⟨e1, e2, e3, hs, h1, h2, h3⟩
      walk_at "ev"
      refine GI.listN (n := 10) h1 (ivs_get (by (first | lia | omega))) (by (first | lia | omega)) ?_
      walk_at "ev"
      refine GI.listN (n := 11) h1 (ivs_get (by (first | lia | omega))) (by (first | lia | omega)) ?_
      walk_at "ev"
      exact ⟨Nat.le_of_ble_eq_true rfl, q vals pa ma _ hl hs hpm h2 h3⟩
end
section
variable {G : Gl} {A : Around} {σ : Store} {Q : V → Store → Prop}
theorem FN.fn4 {k n : Nat} {v1 v2 v3 v4 : V} (p1 p2 p3 p4 : Str) (hr : Room A (n + 1)) (h : ∀ L pm cd doc A', Room A' n → EX G A' (envK G k L pm cd doc) (bodyOf k) (bindV [(p1, v1), (p2, v2), (p3, v3), (p4, v4)] fun _ => none) σ fun fl ρ' σ' => Q (retOf fl) σ')
    (hb : ∀ pm cd doc a b c d, bindArgs (fdK k pm cd doc) ⟨[a, b, c, d], []⟩ = pure [(p1, a), (p2, b), (p3, c), (p4, d)] := by intros; rfl) (hn : (nameOf k ≠ Str.empty ∧ ([p1, p2, p3, p4].all fun y => (scopeOf k).names.lookup y == some .local || (scopeOf k).names.lookup y == some .cell) = true) ∧
      ((cellsFrom 0 (scopeOf k).names []).map (·.1)).Nodup ∧ (scopeOf k).isCoroutine = false ∧ (scopeOf k).isGenerator = false ∧ (scopeOf k).kind = .function := by decide +kernel) : FN G A (.ref (G.fn k)) [v1, v2, v3, v4] σ Q :=
  FN.fn (ps := [p1, p2, p3, p4]) hr h rfl (fun pm cd doc xs h => by
    obtain ⟨a, b, c, d, rfl⟩ := len_list4 h
    exact hb pm cd doc a b c d) hn
/-- the dictionary asked -/
noncomputable def badA (kvs : List (Int × V)) (md : Nat → Int) (j : Nat) : Prop := (vat kvs (j : Int)).getD (.int 1) = .int 1 ∨ entersI (md j) = false
noncomputable def valA (f : Nat → Nat → Bool) (k : Nat) : Int := if f k k = true then 1 else 0
theorem nls_get {l : List Nat} {i : Nat} {v : V} (h : (nls l)[i]? = some v) : ∃ k, l[i]? = some k ∧ v = .int (k : Nat) := by
  unfold nls at h
  rw [List.getElem?_map] at h
  cases e : l[i]? with
  | none => rw [e] at h; cases h
  | some k => rw [e] at h; cases h; exact ⟨k, rfl, rfl⟩
theorem nls_len (l : List Nat) : (nls l).length = l.length := by unfold nls; rw [List.length_map]
theorem LL.sub {σ σ' : Store} {c : Addr} {n : Nat} {f : Nat → List Nat} (x : LL σ c n f) (s : Sub σ σ') : LL σ' c n f := let ⟨as, h1, h2, h3⟩ := x; ⟨as, s _ _ h1, h2, fun j a e => ⟨(h3 j a e).1, s _ _ (h3 j a e).2⟩⟩
theorem LL.at {σ : Store} {c : Addr} {n : Nat} {f : Nat → List Nat} (x : LL σ c n f) : ∃ vs, σ c = some (.list vs) ∧ vs.length = n ∧ ∀ j, j < n → ∃ a, vs[j]? = some (.ref a) ∧ σ a = some (.list (nls (f j))) := by
  obtain ⟨as, h1, h2, h3⟩ := x
  refine ⟨_, h1, by rw [List.length_map]; exact h2, fun j hj => ?_⟩
  have e : as[j]? = some as[j] := List.getElem?_eq_getElem (by (first | lia | omega))
  exact ⟨as[j], by rw [List.getElem?_map, e]; rfl, (h3 j _ e).2⟩
noncomputable def shareN : List Nat → List Nat → Nat
  | a :: l, b :: m => if a = b then shareN l m + 1 else 0
  | _, _ => 0
noncomputable def aheadB (key : Nat → Key) (l m : List Nat) : Bool :=
  if shareN l m = l.length then decide (shareN l m < m.length) else if shareN l m = m.length then false else
    match (l.drop (shareN l m)).map key, (m.drop (shareN l m)).map key with
    | a :: ks, b :: js => klt (kmax a ks) (kmax b js)
    | _, _ => false
set_option tactic.hygienic true in
theorem shareN_spec : ∀ (l m : List Nat) (n : Nat), n ≤ shareN l m → shareN l m = n + shareN (l.drop n) (m.drop n) := by
  intro l
  induction l with
  | nil => intro m n h; have : shareN [] m = 0 := rfl; rw [this] at h ⊢; obtain rfl : n = 0 := (by (first | lia | omega)); rfl
  | cons a l ih =>
    intro m n h
    cases m with
    | nil => have : shareN (a :: l) [] = 0 := rfl; rw [this] at h ⊢; obtain rfl : n = 0 := (by (first | lia | omega)); rfl
    | cons b m =>
      cases n with
      | zero => rw [Nat.zero_add]; rfl
      | succ n =>
        rw [shareN] at h ⊢
        split at h
        · next hab => rw [if_pos hab, ih m n (by (first | lia | omega))]; show _ = n + 1 + shareN (l.drop n) (m.drop n); (first | lia | omega)
        · (first | lia | omega)
theorem shareN_le : ∀ (l m : List Nat), shareN l m ≤ l.length ∧ shareN l m ≤ m.length := by
  intro l
  induction l with
  | nil => intro m; exact ⟨Nat.zero_le _, Nat.zero_le _⟩
  | cons a l ih =>
    intro m
    cases m with
    | nil => exact ⟨Nat.zero_le _, Nat.zero_le _⟩
    | cons b m => rw [shareN]; split <;> simp; exact ih m
noncomputable def keysL (key : Nat → Key) : List V := (List.range 11).map fun k => tv (key k)
theorem keysL_get {key : Nat → Key} {k : Nat} (h : k ≤ 10) : (keysL key)[k]? = some (tv (key k)) := by
  unfold keysL; rw [List.getElem?_map, List.getElem?_range (by (first | lia | omega))]; rfl
theorem ahead {key : Nat → Key} {l m : List Nat} {a b ka : Addr} (hr : Room A 2) (hl : l.length ≤ 10) (hm : m.length ≤ 10) (bl : ∀ k ∈ l, k ≤ 10) (bm : ∀ k ∈ m, k ≤ 10) (ha : σ a = some (.list (nls l))) (hb : σ b = some (.list (nls m))) (hk : σ ka = some (.list (keysL key)))
    (q : ∀ σ', Sub σ σ' → Q (.bool (aheadB key l m)) σ') : FN G A (.ref (G.fn 49)) [.ref a, .ref b, .ref ka] σ Q := by
  refine FN.fn3 "one" "other" "keys" hr ?_
  intro L pm cd doc A' hr'
  conv in bodyOf 49 => whnf
  walk_at "ev"
  have zl := nls_len l
  have zm := nls_len m
  have sle := shareN_le l m
  refine ES.while (fun n ρ σ' => ∃ sh : Nat, n = l.length - sh ∧ σ' = σ ∧ ρ "one" = some (.ref a) ∧ ρ "other" = some (.ref b) ∧ ρ "keys" = some (.ref ka) ∧ ρ "shared" = some (.int sh) ∧ sh ≤ shareN l m) l.length ⟨0, rfl, rfl, rfl, rfl, rfl, rfl, Nat.zero_le _⟩ ?_
  rintro n ρ σ' ⟨sh, rfl, rfl, e1, e2, e3, e4, hs⟩
  have hsp := shareN_spec l m sh hs
  have fin : sh = shareN l m → EX G A' (envK G 49 L pm cd doc) ((bodyOf 49).drop 2) ρ σ' fun f ρ' σ'' => Q (retOf f) σ'' := by
    intro he
    conv in (bodyOf 49).drop 2 => whnf
    walk_at "ev"
    refine EV.bf rfl ?_
    walk_at "ev"
    refine FN.len ha (by (first | lia | omega)) ?_
    walk_at "ev"
    refine iteB (fun h1 => ?_) fun h1 => ?_
    · have h1' : shareN l m = l.length := by have := eq_of_beq h1; (first | lia | omega)
      walk_at "ev"
      refine EV.bf rfl ?_
      walk_at "ev"
      refine FN.len hb (by (first | lia | omega)) ?_
      walk_at "ev"
      have := q σ' (Sub.refl _)
      unfold aheadB at this
      rw [if_pos h1', ← he] at this
      have ed : decide ((sh : Int) < ((nls m).length : Nat)) = decide (sh < m.length) := by rw [zm]; exact decide_eq_decide.mpr (by (first | lia | omega))
      rw [← ed] at this
      exact this
    · have h1' : shareN l m ≠ l.length := fun z => by rw [he, z, zl, beq_self_eq_true] at h1; cases h1
      walk_at "ev"
      refine EV.bf rfl ?_
      walk_at "ev"
      refine FN.len hb (by (first | lia | omega)) ?_
      walk_at "ev"
      refine iteB (fun h2 => ?_) fun h2 => ?_
      · have h2' : shareN l m = m.length := by have := eq_of_beq h2; (first | lia | omega)
        walk_at "ev"
        have := q σ' (Sub.refl _)
        unfold aheadB at this
        rw [if_neg h1', if_pos h2'] at this
        exact this
      · have h2' : shareN l m ≠ m.length := fun z => by rw [he, z, zm, beq_self_eq_true] at h2; cases h2
        obtain ⟨x, l', ex⟩ : ∃ x l', l.drop sh = x :: l' := by
          cases hd : l.drop sh with
          | nil => have := congrArg List.length hd; rw [List.length_drop] at this; simp at this; (first | lia | omega)
          | cons x l' => exact ⟨x, l', rfl⟩
        obtain ⟨y, m', ey⟩ : ∃ y m', m.drop sh = y :: m' := by
          cases hd : m.drop sh with
          | nil => have := congrArg List.length hd; rw [List.length_drop] at this; simp at this; (first | lia | omega)
          | cons x l' => exact ⟨x, l', rfl⟩
        walk_at "ev"
        refine EV.bf rfl ?_
        walk_at "ev"
        refine EV.lc ["keys"] ?_ (hfr := ⟨⟨rfl, rfl⟩, trivial⟩) (hsee := fun x hx L => by rw [List.mem_singleton.mp hx]; rfl)
        refine IT.val ?_
        walk_at "ev"
        refine ⟨_, rfl, ?_⟩
        walk_at "ev"
        refine GI.listS ha (by decide) (by (first | lia | omega)) fun c hc => ?_
        rw [vpick_from (by (first | lia | omega))]
        have dc : (nls l).drop sh = nls (l.drop sh) := by unfold nls; rw [List.map_drop]
        rw [dc, ex]
        refine ITV.list hr'.hd (upd_same _ _ _) ?_
        refine ⟨fun i acc σ'' => Sub (upd σ' c (.list (nls (x :: l')))) σ'' ∧ acc = ((x :: l').take i).map fun k => tv (key k), by rw [nls_len]; have := congrArg List.length ex; rw [List.length_drop] at this; (first | lia | omega), ⟨Sub.refl _, rfl⟩, ?_, ?_⟩
        · rintro L' i v acc σ'' hv hC ⟨hsub, rfl⟩
          obtain ⟨k, hk', rfl⟩ := nls_get hv
          have hkm : k ≤ 10 := bl k (List.mem_of_mem_drop (ex ▸ List.mem_of_getElem? hk'))
          walk_at "ev"
          refine IFS.nil (ifT ?_)
          walk_at "ev"
          refine GI.listN (hsub _ _ ((Sub.new hc _) _ _ hk)) (keysL_get hkm) (by simp [keysL]) ?_
          refine ⟨hC, hsub, ?_⟩
          rw [List.take_add_one, hk', List.map_append]; rfl
        rintro acc σ₁ - hC ⟨hsc, rfl⟩ r hr
        rw [nls_len, List.take_of_length_le (Nat.le_refl _)]
        walk_at "ev"
        refine FN.max (k := key x) (ks := l'.map key) (hr'.less (Nat.zero_le _)) (by rw [upd_same, List.map_cons, List.map_cons, List.map_map]; rfl) ?_
        have hsub1 : Sub σ' (upd σ₁ r (.list ((x :: l').map fun k => tv (key k)))) := ((Sub.new hc _).trans hsc).trans (Sub.new hr _)
        walk_at "ev"
        refine EV.bf rfl ?_
        walk_at "ev"
        refine EV.lc ["keys"] ?_ (hfr := ⟨⟨rfl, rfl⟩, trivial⟩) (hsee := fun x hx L => by rw [List.mem_singleton.mp hx]; rfl)
        refine IT.val ?_
        walk_at "ev"
        refine ⟨_, rfl, ?_⟩
        walk_at "ev"
        refine GI.listS (hsub1 _ _ hb) (by decide) (by (first | lia | omega)) fun d hd => ?_
        rw [vpick_from (by (first | lia | omega))]
        have dd : (nls m).drop sh = nls (m.drop sh) := by unfold nls; rw [List.map_drop]
        rw [dd, ey]
        refine ITV.list hr'.hd (upd_same _ _ _) ?_
        refine ⟨fun i acc σ'' => Sub (upd (upd σ₁ r (.list ((x :: l').map fun k => tv (key k)))) d (.list (nls (y :: m')))) σ'' ∧ acc = ((y :: m').take i).map fun k => tv (key k), by rw [nls_len]; have := congrArg List.length ey; rw [List.length_drop] at this; (first | lia | omega), ⟨Sub.refl _, rfl⟩, ?_, ?_⟩
        · rintro L' i v acc σ'' hv hC ⟨hsub, rfl⟩
          obtain ⟨k, hk', rfl⟩ := nls_get hv
          have hkm : k ≤ 10 := bm k (List.mem_of_mem_drop (ey ▸ List.mem_of_getElem? hk'))
          walk_at "ev"
          refine IFS.nil (ifT ?_)
          walk_at "ev"
          refine GI.listN (hsub _ _ ((Sub.new hd _) _ _ (hsub1 _ _ hk))) (keysL_get hkm) (by simp [keysL]) ?_
          refine ⟨hC, hsub, ?_⟩
          rw [List.take_add_one, hk', List.map_append]; rfl
        rintro acc σ₂ - hC ⟨hsd, rfl⟩ t ht
        rw [nls_len, List.take_of_length_le (Nat.le_refl _)]
        walk_at "ev"
        refine FN.max (k := key y) (ks := m'.map key) (hr'.less (Nat.zero_le _)) (by rw [upd_same, List.map_cons, List.map_cons, List.map_map]; rfl) ?_
        refine OP.ltT hr' ?_
        walk_at "ev"
        have := q _ ((hsub1.trans (Sub.new hd _)).trans (hsd.trans (Sub.new ht (.list ((y :: m').map fun k => tv (key k))))))
        unfold aheadB at this
        rw [if_neg h1', if_neg h2', ← he, ex, ey] at this
        exact this
  walk_at "ev"
  refine EV.bf rfl ?_
  walk_at "ev"
  refine FN.len ha (by (first | lia | omega)) ?_
  walk_at "ev"
  refine iteD (fun h1 => ?_) fun h1 => ?_
  · walk_at "ev"
    refine EV.bf rfl ?_
    walk_at "ev"
    refine FN.len hb (by (first | lia | omega)) ?_
    walk_at "ev"
    refine iteD (fun h2 => ?_) fun h2 => ?_
    · have i1 : sh < l.length := by (first | lia | omega)
      have i2 : sh < m.length := by (first | lia | omega)
      walk_at "ev"
      refine GI.listN ha (v := .int (l[sh] : Nat)) (by unfold nls; rw [List.getElem?_map, List.getElem?_eq_getElem i1]; rfl) (by (first | lia | omega)) ?_
      walk_at "ev"
      refine GI.listN hb (v := .int (m[sh] : Nat)) (by unfold nls; rw [List.getElem?_map, List.getElem?_eq_getElem i2]; rfl) (by (first | lia | omega)) ?_
      walk_at "ev"
      have hst : shareN l m = sh + if l[sh] = m[sh] then shareN (l.drop (sh + 1)) (m.drop (sh + 1)) + 1 else 0 := by
        rw [hsp, List.drop_eq_getElem_cons i1, List.drop_eq_getElem_cons i2, shareN]
      refine iteB (fun h3 => ?_) fun h3 => ?_
      · have h3' : l[sh] = m[sh] := by have := eq_of_beq h3; (first | lia | omega)
        rw [if_pos h3'] at hst
        walk_at "ev"
        exact ⟨l.length - (sh + 1), by (first | lia | omega), sh + 1, rfl, rfl, e1, e2, e3, rfl, by (first | lia | omega)⟩
      · have h3' : l[sh] ≠ m[sh] := fun z => by rw [z, beq_self_eq_true] at h3; cases h3
        rw [if_neg h3'] at hst
        exact fin (by (first | lia | omega))
    · exact fin (by (first | lia | omega))
  · exact fin (by (first | lia | omega))
end
section
variable {G : Gl} {A : Around} {σ : Store} {Q : V → Store → Prop}
theorem EV.neg {env : Env} {ρ : Rho} {i : Int} {k : Nat} {p pos : Pos} (q : Q (.int (-i)) σ) : EV G A env (.UnaryOp .USub (.Constant (.int i) k p) pos) ρ σ Q := fun keep s E st =>
  wpAny_UnaryOp (wpAny_Constant_int (PySem.P.neg_int (pv.here (s := s) st.tok (.int _ _) q)))
/-- the answers -/
noncomputable def ansI (nme : Nat) (dirs : List Int) (over : List Nat) (k : Nat) : Int := if ((k : Int) == (nme : Int)) = true ∨ over.any (fun j => dirs.any (· == (j : Int))) = true then 1 else 0
noncomputable def okA (kvs : List (Int × V)) (md : Nat → Int) (j : Nat) : Bool := match vat kvs (j : Int) with | some (.int a) => !(a == 1) && entersI (md j) | _ => false
noncomputable def askU (p : Nat → Nat) (md : Nat → Int) (nme : Nat) (dirs : List Int) : Nat → List (Int × V)
  | 0 => []
  | i + 1 => if (chain p (i + 1)).dropLast.all (okA (askU p md nme dirs i) md) = true then askU p md nme dirs i ++ [(((i + 1 : Nat) : Int), V.int (ansI nme dirs (chain p (i + 1)).dropLast (i + 1)))] else askU p md nme dirs i
theorem askU_spec (p : Nat → Nat) (md : Nat → Int) (nme : Nat) (dirs : List Int) : ∀ i, (askU p md nme dirs i).length ≤ i ∧ ∀ e ∈ askU p md nme dirs i, e.1 ≤ i ∧ ∃ a, e.2 = .int a := by
  intro i
  induction i with
  | zero => exact ⟨Nat.le_refl _, fun e h => nomatch h⟩
  | succ i ih =>
    rw [askU]
    split
    · refine ⟨by rw [List.length_append]; have := ih.1; simp; (first | lia | omega), fun e h => ?_⟩
      rcases List.mem_append.mp h with h | h
      · have := ih.2 e h; exact ⟨by (first | lia | omega), this.2⟩
      · rw [List.mem_singleton.mp h]; exact ⟨by simp, _, rfl⟩
    · exact ⟨by have := ih.1; (first | lia | omega), fun e h => ⟨by have := (ih.2 e h).1; (first | lia | omega), (ih.2 e h).2⟩⟩
theorem vat_mem {kvs : List (Int × V)} {k : Int} {v : V} (h : vat kvs k = some v) : (k, v) ∈ kvs := by
  unfold vat at h
  cases e : kvs.find? fun p => p.1 = k with
  | none => rw [e] at h; cases h
  | some p =>
    rw [e] at h; cases h
    have hm := List.mem_of_find?_eq_some e
    obtain ⟨a, b⟩ := p
    have hk : a = k := by simpa using List.find?_some e
    subst hk; exact hm
theorem vat_none {kvs : List (Int × V)} {k : Int} (h : ∀ e ∈ kvs, e.1 ≠ k) : vat kvs k = none := by
  cases e : vat kvs k with
  | none => rfl
  | some v => exact absurd rfl (h _ (vat_mem e))
theorem answers {p : Nat → Nat} (hp : ∀ k, 0 < k → k ≤ 10 → p k < k) {md : Nat → Int} {m0 : Int} {nme : Nat} {dirs : List Int} {ma c da : Addr} (hr : Room A 3) (hma : σ ma = some (.list (ivs (m0 :: (List.range 10).map fun k => md (k + 1))))) (hc : LL σ c 11 (chain p)) (hda : σ da = some (.list (ivs dirs)))
    (hb : ∀ k, k ≤ 10 → ∀ j ∈ (chain p k).dropLast, 0 < j ∧ j ≤ 10)
    (q : ∀ a ep σ', Sub σ σ' → σ' a = some (.dicI (askU p md nme dirs 10) ep) → Q (.ref a) σ') : FN G A (.ref (G.fn 48)) [.ref ma, .ref c, .int nme, .ref da] σ Q := by
  refine FN.fn4 "modes" "chains" "name" "dirs" hr ?_
  intro L pm cd doc A' hr'
  conv in bodyOf 48 => whnf
  walk_at "ev"
  refine EV.dict0 fun a ep ha => ?_
  walk_at "ev"
  refine ES.for (IT.val (EV.bt rfl ?_))
  walk_at "ev"
  refine FN.range2 (ITV.zs hr'.hd (by decide) (by decide) (by decide) ?_)
  have hlen : (zseq 1 11).length = 10 := rfl
  refine ⟨fun i ρ σ' => ∃ ep, ρ "modes" = some (.ref ma) ∧ ρ "chains" = some (.ref c) ∧ ρ "name" = some (.int nme) ∧ ρ "dirs" = some (.ref da) ∧ ρ "asked" = some (.ref a) ∧ Sub σ σ' ∧ σ' a = some (.dicI (askU p md nme dirs i) ep), ⟨ep, rfl, rfl, rfl, rfl, rfl, Sub.new ha _, upd_same _ _ _⟩, ?_, ?_⟩
  · rintro i v ρ σ₁ hv - ⟨ep, e1, e2, e3, e4, e5, hs, h1⟩
    obtain ⟨rfl, hi⟩ := zseq_get hv
    have hi' : i < 10 := hi10 hi
    have ek := ek1 i
    have asp := askU_spec p md nme dirs i
    have hb' := hb (i + 1) (by (first | lia | omega))
    have cl := chain_len hp (i + 1) (by (first | lia | omega))
    have hov : (chain p (i + 1)).dropLast.length ≤ 10 := by rw [List.length_dropLast]; (first | lia | omega)
    rw [ek]
    walk_at "ev"
    obtain ⟨cs, c1, c2, c3⟩ := (hc.sub hs).at
    obtain ⟨x, x1, x2⟩ := c3 (i + 1) (by (first | lia | omega))
    refine GI.listN c1 x1 (by (first | lia | omega)) ?_
    walk_at "ev"
    refine EV.neg ⟨-1, rfl, ?_⟩
    walk_at "ev"
    refine GI.listS x2 (by decide) (by rw [nls_len]; (first | lia | omega)) fun b hb0 => ?_
    have ed : vpick (nls (chain p (i + 1))) none (some (-1)) none = nls (chain p (i + 1)).dropLast := by rw [vpick_last]; unfold nls; rw [List.map_dropLast]
    rw [ed]
    generalize hover : (chain p (i + 1)).dropLast = over at *
    have hs2 : Sub σ₁ (upd σ₁ b (.list (nls over))) := Sub.new hb0 _
    have hob : upd σ₁ b (.list (nls over)) b = some (.list (nls over)) := upd_same _ _ _
    generalize upd σ₁ b (.list (nls over)) = σ₂ at *
    have mg : ∀ j, 0 < j → j ≤ 10 → (ivs (m0 :: (List.range 10).map fun k => md (k + 1)))[j]? = some (.int (md j)) := by
      intro j j0 j1
      obtain ⟨t, rfl⟩ : ∃ t, j = t + 1 := ⟨j - 1, by (first | lia | omega)⟩
      unfold ivs
      rw [List.getElem?_map, List.getElem?_cons_succ, List.getElem?_map, List.getElem?_range (by (first | lia | omega))]; rfl
    have ap := askU_spec p md nme dirs i
    generalize hkv : askU p md nme dirs i = kvs at *
    walk_at "ev"
    refine EV.lc ["asked", "modes"] ?h1 (hfr := ?f) (hsee := ?e)
    case f => exact ⟨⟨rfl, rfl⟩, ⟨rfl, rfl⟩, trivial⟩
    case e =>
      intro x hx L
      rcases List.mem_cons.mp hx with rfl | hx
      · rfl
      · rw [List.mem_singleton.mp hx]; rfl
    refine IT.val ?_
    walk_at "ev"
    refine ITV.list hr'.hd hob ?_
    refine ⟨fun t acc σ' => Sub σ₂ σ' ∧ acc.length ≤ t ∧ acc.isEmpty = (over.take t).all (okA kvs md), by rw [nls_len]; (first | lia | omega), ⟨Sub.refl _, Nat.le_refl _, rfl⟩, ?_, ?_⟩
    · rintro L' t v acc σ₃ hv hC ⟨hs3, hz, hacc⟩
      obtain ⟨j, hj, rfl⟩ := nls_get hv
      obtain ⟨j0, j1⟩ := hb' j (List.mem_of_getElem? hj)
      have hkv3 := hs3 _ _ (hs2 _ _ h1)
      have htk : (over.take (t + 1)).all (okA kvs md) = ((over.take t).all (okA kvs md) && okA kvs md j) := by rw [List.take_add_one, hj, List.all_append]; simp
      have yes : okA kvs md j = false → (acc ++ [V.int (j : Nat)]).length ≤ t + 1 ∧ (acc ++ [V.int (j : Nat)]).isEmpty = (over.take (t + 1)).all (okA kvs md) := fun h => by
        refine ⟨by simp; (first | lia | omega), ?_⟩; rw [htk, h, Bool.and_false]; simp
      have no : okA kvs md j = true → acc.length ≤ t + 1 ∧ acc.isEmpty = (over.take (t + 1)).all (okA kvs md) := fun h => ⟨by (first | lia | omega), by rw [htk, h, Bool.and_true]; exact hacc⟩
      have fin : ∀ a, ((vat kvs (j : Int)).getD (.int 1) = .int a) → (a = 1 → okA kvs md j = false) ∧ (a ≠ 1 → okA kvs md j = entersI (md j)) := by
        intro a ha
        unfold okA
        cases hv : vat kvs (j : Int) with
        | none => rw [hv] at ha; cases ha; exact ⟨fun _ => rfl, fun h => absurd rfl h⟩
        | some w => rw [hv] at ha; cases ha; refine ⟨fun h => by subst h; rfl, fun h => ?_⟩; dsimp only; rw [beq_eq_false_iff_ne.mpr h]; rfl
      obtain ⟨a, hga⟩ : ∃ a, (vat kvs (j : Int)).getD (.int 1) = .int a := by
        cases hv : vat kvs (j : Int) with
        | none => exact ⟨1, rfl⟩
        | some w => obtain ⟨_, a, rfl⟩ := ap.2 _ (vat_mem hv); exact ⟨a, rfl⟩
      obtain ⟨f1, f2⟩ := fin a hga
      walk_at "ev"
      refine IFS.one ?_
      walk_at "ev"
      refine EV.meth "dict.get" ?_
      walk_at "ev"
      refine ⟨GM.dget hkv3, ?_⟩
      walk_at "ev"
      refine FN.dget hkv3 ?_
      rw [hga]
      walk_at "ev"
      refine iteB (fun h => ?_) fun h => ?_
      · walk_at "ev"
        obtain ⟨y1, y2⟩ := yes (f1 (eq_of_beq h))
        exact ⟨hC, hs3, y1, y2⟩
      · have hok := f2 (beq_eq_false_iff_ne.mp h)
        walk_at "ev"
        refine EV.call 47 ?_
        walk_at "ev"
        refine GI.listN (hs3 _ _ (hs2 _ _ (hs _ _ hma))) (mg j j0 j1) (by simp [ivs]) ?_
        walk_at "ev"
        refine enters (hr'.less (by decide)) ?_
        walk_at "ev"
        refine iteB (fun he => ?_) fun he => ?_
        · walk_at "ev"
          obtain ⟨y1, y2⟩ := yes (hok.trans (by simpa using he))
          exact ⟨hC, hs3, y1, y2⟩
        · walk_at "ev"
          obtain ⟨y1, y2⟩ := no (hok.trans (by simpa using he))
          exact ⟨hC, hs3, y1, y2⟩
    · rintro acc σ₃ hzz hC ⟨hs3, hz, hacc⟩ b' hb'
      rw [nls_len] at hz hacc hzz
      rw [List.take_of_length_le (Nat.le_refl _)] at hacc
      refine TV.list (upd_same _ _ _) (by (first | lia | omega)) ?_
      have hkv3 : upd σ₃ b' (.list acc) a = some (.dicI kvs ep) := (Sub.new hb' _) _ _ (hs3 _ _ (hs2 _ _ h1))
      have hob3 : upd σ₃ b' (.list acc) b = some (.list (nls over)) := (Sub.new hb' _) _ _ hC
      have hs4 : Sub σ₁ (upd σ₃ b' (.list acc)) := hs2.trans (hs3.trans (Sub.new hb' _))
      generalize upd σ₃ b' (.list acc) = σ₄ at *
      have hnx : askU p md nme dirs (i + 1) = if over.all (okA kvs md) = true then kvs ++ [(((i + 1 : Nat) : Int), V.int (ansI nme dirs over (i + 1)))] else kvs := by rw [askU, hkv, hover]
      rw [hacc, Bool.not_not]
      cases hall : over.all (okA kvs md) with
      | false =>
        rw [hall] at hnx
        walk_at "ev"
        exact ⟨trivial, ep, e1, e2, e3, e4, e5, hs.trans hs4, by rw [hnx]; exact hkv3⟩
      | true =>
        rw [hall] at hnx
        walk_at "ev"
        have put : ∀ (v : Int) (σ₅ : Store) (P : Store → Prop), v = ansI nme dirs over (i + 1) → Sub σ₁ σ₅ → σ₅ a = some (.dicI kvs ep) → (∀ σ₆ ep', Sub σ σ₆ → σ₆ a = some (.dicI (askU p md nme dirs (i + 1)) ep') → P σ₆) → SI G A' (.ref a) (.int ((i + 1 : Nat) : Int)) (.int v) σ₅ P := by
          intro v σ₅ P hv s5 a5 hP
          refine SI.dicI a5 (by have := ap.1; (first | lia | omega)) (vat_none fun e he hk => ?_) fun ep' => hP _ ep' ((hs.trans s5).put ha _) ?_
          · have := (ap.2 e he).1; rw [hk] at this; (first | lia | omega)
          · rw [upd_same, hnx, hv]; rfl
        refine iteB (fun hn => ?_) fun hn => ?_
        · walk_at "ev"
          refine put _ _ _ (by unfold ansI; rw [if_pos (Or.inl hn)]; rfl) hs4 hkv3 fun σ₆ ep' s6 a6 => ?_
          walk_at "ev"
          exact ⟨trivial, ep', e1, e2, e3, e4, e5, s6, a6⟩
        · walk_at "ev"
          refine EV.lc ["dirs"] ?h2 (hfr := ?f) (hsee := ?e)
          case f => exact ⟨⟨rfl, rfl⟩, trivial⟩
          case e => intro x hx L; rw [List.mem_singleton.mp hx]; rfl
          refine IT.val ?_
          walk_at "ev"
          refine ITV.list hr'.hd hob3 ?_
          refine ⟨fun t acc σ' => Sub σ₄ σ' ∧ acc.length ≤ t ∧ (!acc.isEmpty) = (over.take t).any (fun j => dirs.any (· == (j : Int))), by rw [nls_len]; (first | lia | omega), ⟨Sub.refl _, Nat.le_refl _, rfl⟩, ?_, ?_⟩
          · rintro L' t v acc σ₅ hv hC ⟨hs5, hz5, hacc5⟩
            obtain ⟨j, hj, rfl⟩ := nls_get hv
            have htk : (over.take (t + 1)).any (fun j => dirs.any (· == (j : Int))) = ((over.take t).any (fun j => dirs.any (· == (j : Int))) || dirs.any (· == (j : Int))) := by rw [List.take_add_one, hj, List.any_append]; simp
            walk_at "ev"
            refine IFS.one ?_
            walk_at "ev"
            refine OP.inI (hs5 _ _ (hs4 _ _ (hs _ _ hda))) ?_
            walk_at "ev"
            refine iteB (fun h => ?_) fun h => ?_
            · walk_at "ev"
              exact ⟨hC, hs5, by simp; (first | lia | omega), by rw [htk, h, Bool.or_true]; simp⟩
            · exact ⟨hC, hs5, by (first | lia | omega), by rw [htk, h, Bool.or_false]; exact hacc5⟩
          · rintro acc5 σ₅ hzz5 hC5 ⟨hs5, hz5, hacc5⟩ b5 hb5
            rw [nls_len] at hz5 hacc5 hzz5
            rw [List.take_of_length_le (Nat.le_refl _)] at hacc5
            refine TV.list (upd_same _ _ _) (by (first | lia | omega)) ?_
            rw [hacc5]
            have hkv5 : upd σ₅ b5 (.list acc5) a = some (.dicI kvs ep) := (Sub.new hb5 _) _ _ (hs5 _ _ hkv3)
            refine iteB (fun h => ?_) fun h => ?_
            · walk_at "ev"
              refine put _ _ _ (by unfold ansI; rw [if_pos (Or.inr h)]; rfl) (hs4.trans (hs5.trans (Sub.new hb5 _))) hkv5 fun σ₆ ep' s6 a6 => ?_
              walk_at "ev"
              exact ⟨trivial, ep', e1, e2, e3, e4, e5, s6, a6⟩
            · walk_at "ev"
              refine put _ _ _ (by show (0 : Int) = _; unfold ansI; rw [if_neg (by rw [h, hn]; simp)]) (hs4.trans (hs5.trans (Sub.new hb5 _))) hkv5 fun σ₆ ep' s6 a6 => ?_
              walk_at "ev"
              exact ⟨trivial, ep', e1, e2, e3, e4, e5, s6, a6⟩
  · rintro ρ σ₁ - ⟨ep, e1, e2, e3, e4, e5, hs, h1⟩
    walk_at "ev"
    exact q a ep _ hs h1
end
section
variable {G : Gl} {A : Around} {σ : Store} {Q : V → Store → Prop}
/-- the order wanted -/
noncomputable def cntA (p : Nat → Nat) (key : Nat → Key) (ks : List Nat) (k : Nat) : Nat := (ks.filter fun j => aheadB key (chain p j) (chain p k)).length
theorem vat_map {ks : List Nat} {f : Nat → V} {k : Nat} (h : k ∈ ks) : vat (ks.map fun (k : Nat) => ((k : Int), f k)) (k : Int) = some (f k) := by
  induction ks with
  | nil => cases h
  | cons j ks ih =>
    unfold vat
    rw [List.map_cons, List.find?_cons]
    by_cases hj : j = k
    · subst hj; simp
    · have : ¬ ((j : Int) = (k : Int)) := by (first | lia | omega)
      simp only [this, decide_false]
      exact ih (by cases h with | head => exact absurd rfl hj | tail _ h => exact h)
theorem wanted {p : Nat → Nat} (hp : ∀ k, 0 < k → k ≤ 10 → p k < k) {key : Nat → Key} {ks : List Nat} {ans : Nat → Int} {aa c ka : Addr} {ep : Nat} (hr : Room A 4) (hks : ∀ k ∈ ks, 0 < k ∧ k ≤ 10) (hnk : ks.Nodup) (hz : ks.length ≤ 10) (hca : ∀ k, k ≤ 10 → ∀ j ∈ chain p k, j ≤ 10) (hans : ∀ k, ans k = 0 ∨ ans k = 1)
    (haa : σ aa = some (.dicI (ks.map fun (k : Nat) => ((k : Int), V.int (ans k))) ep)) (hc : LL σ c 11 (chain p)) (hka : σ ka = some (.list (keysL key))) (hcn : (ks.map fun (k : Nat) => (cntA p key ks k : Int)).Nodup)
    (q : ∀ a (qs : List Nat) σ', Sub σ σ' → qs.Perm ks → qs.Pairwise (fun x y => cntA p key ks x < cntA p key ks y) → σ' a = some (.list (qs.map fun (k : Nat) => V.tup [.int (k : Nat), .str (toString (ans k))])) → Q (.ref a) σ') : FN G A (.ref (G.fn 50)) [.ref aa, .ref c, .ref ka] σ Q := by
  refine FN.fn3 "asked" "chains" "keys" hr ?_
  intro L pm cd doc A' hr'
  conv in bodyOf 50 => whnf
  walk_at "ev"
  refine ⟨by decide, fun oa hoa => ?_⟩
  walk_at "ev"
  refine ES.for (IT.val ?_)
  walk_at "ev"
  have hoaa : oa ≠ aa := by rintro rfl; rw [haa] at hoa; cases hoa
  refine ITV.dicI hr'.hd (by rw [upd_ne _ _ hoaa.symm]; exact haa) ?_
  have hit : (ks.map fun (k : Nat) => ((k : Int), V.int (ans k))).map (fun p => V.int p.1) = nls ks := by unfold nls; rw [List.map_map]; rfl
  rw [hit]
  refine ⟨fun i ρ σ' => ρ "asked" = some (.ref aa) ∧ ρ "chains" = some (.ref c) ∧ ρ "keys" = some (.ref ka) ∧ ρ "order" = some (.ref oa) ∧ Sub σ σ' ∧ σ' oa = some (.list ((ks.take i).map fun (k : Nat) => tvi (cntA p key ks k, k))), ⟨rfl, rfl, rfl, rfl, Sub.new hoa _, upd_same _ _ _⟩, ?_, ?_⟩
  · rintro i v ρ σ₁ hv hC ⟨e1, e2, e3, e4, hs, h1⟩
    obtain ⟨k, hk, rfl⟩ := nls_get hv
    obtain ⟨k0, k1⟩ := hks k (List.mem_of_getElem? hk)
    walk_at "ev"
    refine ES.lc ["chains", "k", "keys"] ?h3 (hfr := ?f) (hsee := ?e)
    case f => exact ⟨⟨rfl, rfl⟩, ⟨rfl, rfl⟩, ⟨rfl, rfl⟩, trivial⟩
    case e =>
      intro x hx L
      rcases List.mem_cons.mp hx with rfl | hx
      · rfl
      · rcases List.mem_cons.mp hx with rfl | hx
        · rfl
        · rw [List.mem_singleton.mp hx]; rfl
    refine IT.val ?_
    walk_at "ev"
    refine ITV.dicI hr'.hd hC ?_
    rw [hit]
    refine ⟨fun t acc σ' => Sub σ₁ σ' ∧ acc = nls ((ks.take t).filter fun j => aheadB key (chain p j) (chain p k)), by rw [nls_len]; (first | lia | omega), ⟨Sub.refl _, rfl⟩, ?_, ?_⟩
    · rintro L' t v acc σ₂ hv hC2 ⟨hs2, rfl⟩
      obtain ⟨j, hj, rfl⟩ := nls_get hv
      obtain ⟨j0, j1⟩ := hks j (List.mem_of_getElem? hj)
      obtain ⟨cs, c1, c2, c3⟩ := (hc.sub (hs.trans hs2)).at
      obtain ⟨x, x1, x2⟩ := c3 j (by (first | lia | omega))
      obtain ⟨y, y1, y2⟩ := c3 k (by (first | lia | omega))
      have lx := chain_len hp j j1
      have ly := chain_len hp k k1
      walk_at "ev"
      refine IFS.one ?_
      walk_at "ev"
      refine EV.call 49 ?_
      walk_at "ev"
      refine GI.listN c1 x1 (by (first | lia | omega)) ?_
      walk_at "ev"
      refine GI.listN c1 y1 (by (first | lia | omega)) ?_
      walk_at "ev"
      refine ahead (hr'.less (by decide)) (by (first | lia | omega)) (by (first | lia | omega)) (hca j j1) (hca k k1) x2 y2 (hs2 _ _ (hs _ _ hka)) fun σ₃ s3 => ?_
      walk_at "ev"
      have htk : (ks.take (t + 1)).filter (fun j => aheadB key (chain p j) (chain p k)) = (ks.take t).filter (fun j => aheadB key (chain p j) (chain p k)) ++ if aheadB key (chain p j) (chain p k) = true then [j] else [] := by
        rw [List.take_add_one, hj, List.filter_append]; congr 1; simp only [Option.toList, List.filter_cons, List.filter_nil]
      refine iteB (fun h => ?_) fun h => ?_
      · walk_at "ev"
        refine ⟨s3 _ _ hC2, hs2.trans s3, ?_⟩
        rw [htk, if_pos h]; unfold nls; rw [List.map_append]; rfl
      · refine ⟨s3 _ _ hC2, hs2.trans s3, ?_⟩
        rw [htk, if_neg (by rw [h]; decide), List.append_nil]
    · rintro acc σ₂ - hC2 ⟨hs2, rfl⟩ b hb
      rw [nls_len, List.take_of_length_le (Nat.le_refl _)]
      walk_at "ev"
      refine EV.meth "list.append" ?_
      walk_at "ev"
      have hb1 := (Sub.new hb (.list (nls (ks.filter fun j => aheadB key (chain p j) (chain p k))))) _ _ (hs2 _ _ h1)
      refine ⟨GM.append hb1, ?_⟩
      walk_at "ev"
      refine EV.bf rfl ?_
      walk_at "ev"
      have hfl : (ks.filter fun j => aheadB key (chain p j) (chain p k)).length ≤ ks.length := List.length_filter_le _ _
      refine FN.len (upd_same _ _ _) (by rw [nls_len]; (first | lia | omega)) ?_
      rw [nls_len]
      walk_at "ev"
      refine ⟨Nat.le_of_ble_eq_true rfl, ?_⟩
      walk_at "ev"
      refine FN.append hb1 (by rw [List.length_map, List.length_take]; (first | lia | omega)) ?_
      walk_at "ev"
      refine ⟨?_, e1, e2, e3, e4, ((hs.trans hs2).trans (Sub.new hb _)).put hoa _, ?_⟩
      · exact (upd_ne _ _ hoaa.symm).trans ((Sub.new hb _) _ _ hC2)
      · rw [upd_same, List.take_add_one, hk, List.map_append]; rfl
  · rintro ρ σ₁ hC ⟨e1, e2, e3, e4, hs, h1⟩
    rw [nls_len, List.take_of_length_le (Nat.le_refl _)] at h1
    walk_at "ev"
    refine EV.lc ["asked"] ?h4 (hfr := ?f) (hsee := ?e)
    case f => exact ⟨⟨rfl, rfl⟩, trivial⟩
    case e => intro x hx L; rw [List.mem_singleton.mp hx]; rfl
    refine IT.val (EV.bf rfl ?_)
    walk_at "ev"
    have h1' : σ₁ oa = some (.list ((ks.map fun (k : Nat) => ((cntA p key ks k : Int), (k : Int))).map tvi)) := by rw [List.map_map]; exact h1
    refine FN.sorted h1' (by rw [List.map_map]; exact hcn) (by rw [List.length_map]; (first | lia | omega)) fun qs b hperm hpw hb => ?_
    have hback : qs = (qs.map fun x => x.2.toNat).map fun (k : Nat) => ((cntA p key ks k : Int), (k : Int)) := by
      rw [List.map_map]
      conv => lhs; rw [← List.map_id qs]
      refine List.map_congr_left fun x hx => ?_
      obtain ⟨k, _, rfl⟩ := List.mem_map.mp (hperm.mem_iff.mp hx)
      rfl
    have hqp : (qs.map fun x => x.2.toNat).Perm ks := by
      have := hperm.map fun x => x.2.toNat
      rw [List.map_map] at this
      have hid : List.map ((fun (x : Int × Int) => x.2.toNat) ∘ fun (k : Nat) => ((cntA p key ks k : Int), (k : Int))) ks = ks := by
        conv => rhs; rw [← List.map_id ks]
        exact List.map_congr_left fun k _ => rfl
      rwa [hid] at this
    generalize qs.map (fun x => x.2.toNat) = qn at hback hqp
    subst hback
    have hql : qn.length = ks.length := hqp.length_eq
    refine ITV.list hr'.hd (upd_same _ _ _) ?_
    rw [List.map_map]
    refine ⟨fun t acc σ' => Sub (upd σ₁ b (.list (qn.map (tvi ∘ fun (k : Nat) => ((cntA p key ks k : Int), (k : Int)))))) σ' ∧ acc = (qn.take t).map fun (k : Nat) => V.tup [.int (k : Nat), .str (toString (ans k))], by rw [List.length_map]; (first | lia | omega), ⟨Sub.refl _, rfl⟩, ?_, ?_⟩
    · rintro L' t v acc σ₂ hv hC2 ⟨hs2, rfl⟩
      rw [List.getElem?_map] at hv
      obtain ⟨k, hk, rfl⟩ : ∃ k, qn[t]? = some k ∧ tvi ((cntA p key ks k : Int), (k : Int)) = v := by
        cases h : qn[t]? with
        | none => rw [h] at hv; cases hv
        | some k => rw [h] at hv; cases hv; exact ⟨k, rfl, rfl⟩
      have hkm : k ∈ ks := hqp.mem_iff.mp (List.mem_of_getElem? hk)
      have haa2 := hs2 _ _ ((Sub.new hb _) _ _ hC)
      refine AS.tup hr'.hd (AL.cons ?_)
      walk_at "ev"
      refine AL.cons ?_
      walk_at "ev"
      refine AL.nil (IFS.nil (ifT ?_))
      walk_at "ev"
      refine EV.bt rfl ?_
      walk_at "ev"
      refine GI.dicI haa2 (vat_map (f := fun k => .int (ans k)) hkm) ?_
      walk_at "ev"
      refine FN.strI (by rcases hans k with h | h <;> rw [h] <;> decide) ?_
      walk_at "ev"
      refine ⟨Nat.le_of_ble_eq_true rfl, hC2, hs2, ?_⟩
      rw [List.take_add_one, hk, List.map_append]; rfl
    · rintro acc σ₂ - hC2 ⟨hs2, rfl⟩ d hd
      rw [List.length_map, List.take_of_length_le (Nat.le_refl _)]
      walk_at "ev"
      refine q d qn _ (hs.trans ((Sub.new hb _).trans (hs2.trans (Sub.new hd _)))) hqp ?_ (upd_same _ _ _)
      rw [List.pairwise_map] at hpw
      exact hpw.imp fun h => by simpa using h
end
section
variable {G : Gl} {A : Around} {σ : Store} {Q : V → Store → Prop}
theorem ifTe {b : Bool} {A B : Prop} (e : b = true) (h : A) : if b = true then A else B := by rw [if_pos e]; exact h
theorem ifFe {b : Bool} {A B : Prop} (e : b = false) (h : B) : if b = true then A else B := by rw [e]; exact h
theorem kind_ {x : Str} {n : V} (hr : Room A 1) (q : Q (.str "") σ) : FN G A (.ref (G.fn 33)) [n, .str x] σ Q := by
  refine FN.fn2 "name" "x" hr ?_
  intro L pm cd doc A' hr'
  conv in bodyOf 33 => whnf
  walk_at "ev"
  refine EV.bt rfl ?_
  walk_at "ev"
  refine FN.typeS ?_
  walk_at "ev"
  refine EV.blt (G.nob _ (by decide +kernel)) rfl ?_
  refine OP.isTT ?_
  walk_at "ev"
  exact q
theorem c_path {x : Str} {n c ar : V} {ka : Addr} {ep : Nat} (hr : Room A 2) (hk : σ ka = some (.dicI [] ep)) (q : Q (.str x) σ) : FN G A (.ref (G.fn 34)) [n, c, ar, .tup [.str x], .ref ka] σ Q := by
  refine FN.fn5 "name" "cname" "argname" "args" "kwargs" hr ?_
  intro L pm cd doc A' hr'
  conv in bodyOf 34 => whnf
  walk_at "ev"
  refine EV.bf rfl ?_
  walk_at "ev"
  refine FN.lenT (by show 1 ≤ 10000; decide) ?_
  walk_at "ev"
  refine ifTe rfl ?_
  walk_at "ev"
  refine TV.dicI hk (by decide) ?_
  refine ifTe rfl ?_
  walk_at "ev"
  refine GI.tup (by decide) rfl (by show 1 ≤ 100000; decide) ?_
  walk_at "ev"
  refine EV.call 33 ?_
  walk_at "ev"
  refine kind_ hr' ?_
  walk_at "ev"
  refine TV.str (by decide) ?_
  refine ifFe rfl ?_
  walk_at "ev"
  exact q
/-- a path that stands for itself -/
structure NP (p : Str) (cs : List Str) : Prop where
  len : p.length ≤ 1000
  pos : p.length ≠ 0
  s1 : sslice p none (some 1) none = Str.ofString "/"
  s3 : (sslice p (some 1) (some 2) none).length ≤ 1000
  s2 : (sslice p (some 1) (some 2) none != Str.ofString "/") = true
  sl : (sslice p (some 1) none none).length ≤ 1000
  sp : Txt.split (sslice p (some 1) none none) (Str.ofString "/") = cs
  cl : cs.length ≤ 100
  ok : ∀ c ∈ cs, c.length ≠ 0 ∧ (c == Str.ofString ".") = false ∧ (c != Str.ofString "..") = true ∧ c.length ≤ 100
  re : Str.ofString "/" ++ Txt.join (Str.ofString "/") cs = p
  jl : (Txt.join (Str.ofString "/") cs).length ≤ 1000
theorem sum_le {cs : List Str} (hok : ∀ c ∈ cs, c.length ≤ 100) : (cs.map (·.length)).sum ≤ cs.length * 100 := by
  induction cs with
  | nil => exact Nat.le_refl _
  | cons r ss ih =>
    have := hok r (List.mem_cons_self ..)
    have := ih fun r h => hok r (List.mem_cons_of_mem _ h)
    simp; (first | lia | omega)
theorem splitroot {p : Str} {cs : List Str} (N : NP p cs) (hr : Room A 1) (q : Q (.tup [.str "", .str "/", .str (sslice p (some 1) none none)]) σ) : FN G A (.ref (G.fn 35)) [.str p] σ Q := by
  refine FN.fn1 "p" hr ?_
  intro L pm cd doc A' hr'
  conv in bodyOf 35 => whnf
  walk_at "ev"
  refine ⟨1, rfl, ?_⟩
  walk_at "ev"
  refine GI.strS (by decide) (by rw [N.s1]; decide) ?_
  rw [N.s1]
  walk_at "ev"
  refine ifFe (by decide) ?_
  walk_at "ev"
  refine ⟨1, rfl, ?_⟩
  walk_at "ev"
  refine ⟨2, rfl, ?_⟩
  walk_at "ev"
  refine GI.strS (by decide) (by have := N.s3; (first | lia | omega)) ?_
  walk_at "ev"
  refine ifTe N.s2 ?_
  walk_at "ev"
  refine ⟨1, rfl, ?_⟩
  walk_at "ev"
  refine GI.strS (by decide) (by have := N.sl; (first | lia | omega)) ?_
  walk_at "ev"
  exact ⟨by show 3 ≤ 1000; decide, q⟩
theorem normpath_ {p : Str} {cs : List Str} (N : NP p cs) (hr : Room A 2) (q : ∀ σ', Sub σ σ' → Q (.str p) σ') : FN G A (.ref (G.fn 36)) [.str p] σ Q := by
  refine FN.fn1 "path" hr ?_
  intro L pm cd doc A' hr'
  conv in bodyOf 36 => whnf
  walk_at "ev"
  refine TV.str (by have := N.len; (first | lia | omega)) ?_
  refine ifFe (by have := N.pos; simp [this]) ?_
  walk_at "ev"
  refine EV.call 35 ?_
  walk_at "ev"
  refine splitroot N hr' ?_
  refine AS.tup hr'.hd ?_
  refine AL.cons ?_
  walk_at "ev"
  refine AL.cons ?_
  walk_at "ev"
  refine AL.cons ?_
  walk_at "ev"
  refine AL.nil ?_
  walk_at "ev"
  refine EV.meth "str.split" ?_
  walk_at "ev"
  refine ⟨GM.strM PySem.F.slot_str_split PySem.F.type_str_split, ?_⟩
  walk_at "ev"
  refine FN.split rfl N.sl fun b hb => ?_
  rw [N.sp]
  walk_at "ev"
  refine ⟨by decide, fun c hc => ?_⟩
  have hcb : c ≠ b := by rintro rfl; rw [upd_same] at hc; cases hc
  have hc' : σ c = none := by rw [upd_ne _ _ hcb] at hc; exact hc
  walk_at "ev"
  refine ES.for (IT.val ?_)
  walk_at "ev"
  refine ITV.list hr'.hd (by rw [upd_ne _ _ hcb.symm]; exact upd_same _ _ _) ?_
  refine ⟨fun i ρ σ' => ρ "sep" = some (.str "/") ∧ ρ "dot" = some (.str ".") ∧ ρ "dotdot" = some (.str "..") ∧ ρ "initial_slashes" = some (.str "/") ∧ ρ "new_comps" = some (.ref c) ∧ Sub σ σ' ∧ σ' c = some (.list ((cs.take i).map .str)), ⟨rfl, rfl, rfl, rfl, rfl, (Sub.new hb _).put hc' _, upd_same _ _ _⟩, ?_, ?_⟩
  · rintro i v ρ σ₁ hv hC ⟨e1, e2, e3, e4, e5, hs, h1⟩
    rw [List.getElem?_map] at hv
    cases hx : cs[i]? with
    | none => rw [hx] at hv; cases hv
    | some x =>
      rw [hx] at hv; cases hv
      obtain ⟨x1, x2, x3, x4⟩ := N.ok x (List.mem_of_getElem? hx)
      walk_at "ev"
      refine TV.str (by (first | lia | omega)) ?_
      refine ifFe (by simp [x1]) ?_
      walk_at "ev"
      refine ifFe x2 ?_
      walk_at "ev"
      refine ifTe x3 ?_
      walk_at "ev"
      refine EV.meth "list.append" ?_
      walk_at "ev"
      refine ⟨GM.append h1, ?_⟩
      walk_at "ev"
      refine FN.append h1 (by have := N.cl; simp; (first | lia | omega)) ?_
      walk_at "ev"
      refine ⟨(upd_ne _ _ hcb.symm).trans hC, e1, e2, e3, e4, e5, hs.put hc' _, ?_⟩
      rw [upd_same, List.take_add_one, hx, List.map_append]; rfl
  · rintro ρ σ₁ hC ⟨e1, e2, e3, e4, e5, hs, h1⟩
    rw [List.length_map, List.take_length] at h1
    walk_at "ev"
    refine EV.meth "str.join" ?_
    walk_at "ev"
    refine ⟨GM.strM PySem.F.slot_str_join PySem.F.type_str_join, ?_⟩
    walk_at "ev"
    refine FN.join h1 ?_ ?_
    · have h2 : (cs.map (·.length)).sum ≤ cs.length * 100 := sum_le fun c h => (N.ok c h).2.2.2
      have := N.cl
      have : (Str.ofString "/").length = 1 := rfl
      rw [this]; (first | lia | omega)
    refine OP.cat (by have := N.jl; have : (Str.ofString "/").length = 1 := rfl; (first | lia | omega)) ?_
    rw [N.re]
    walk_at "ev"
    refine TV.str (by have := N.len; (first | lia | omega)) ?_
    refine ifTe (by have := N.pos; simp [this]) ?_
    walk_at "ev"
    exact q _ hs
theorem normpath {p : Str} {cs : List Str} (N : NP p cs) (hr : Room A 5) (q : ∀ σ', Sub σ σ' → Q (.str p) σ') : FN G A (.ref (G.fn 37)) [.str p] σ Q := by
  obtain ⟨_, pm, cd, doc, hf⟩ := G.fnOk 37 (by decide +kernel)
  refine FN.ofC (FC.fdB (n := 4) (ps := ["args", "kwargs"]) (K := fun vs' σ' => ∃ ka ep, vs' = [.tup [.str p], .ref ka] ∧ Sub σ σ' ∧ σ' ka = some (.dicI [] ep)) hf hr rfl rfl rfl rfl ?hb (by show ([Str.ofString "args", Str.ofString "kwargs"].all fun y => (scopeOf 37).names.lookup y == some .local || (scopeOf 37).names.lookup y == some .cell) = true; decide +kernel) (by show (scopeOf 37).isCoroutine = false; decide +kernel) (by show (scopeOf 37).isGenerator = false; decide +kernel) (by show (scopeOf 37).kind = .function; decide +kernel) ?h)
  case hb =>
    intro keep s xs E sg r
    cases r with
    | @cons _ x _ _ r1 r2 =>
      cases r2
      have e : bindArgs (fdK 37 pm cd doc) ⟨[x], []⟩ = (do let t ← newTuple [x]; let d ← alloc { cls := .type "dict", data := .dict #[] }; pure [(Str.ofString "args", t), (Str.ofString "kwargs", .ref d)]) := rfl
      rw [e]
      refine wpAny_bind (wpAny_newObj_type ?_ (by size_fits))
      refine wpAny_bind (wpAny_alloc (wpAny_pure ?_))
      have g1 := sg.alloc { cls := .type "tuple", data := .seq [x].toArray 0 }
      obtain ⟨ep, hd⟩ := (Heap.DictOf.new (knd := PySem.intKind G.prog G.w) (s.heap.push { cls := .type "tuple", data := .seq [x].toArray 0 })).dictAt
      have g2 : Sg G keep (upd σ _ (.dicI [] ep)) { s with heap := (s.heap.push { cls := .type "tuple", data := .seq [x].toArray 0 }).push { cls := .type "dict", data := .dict #[] } } := ⟨g1.gens, g1.os, g1.hs.add (Heap.size_none _) (But.push _ _) (.dicI (fresh_sys g1 (Nat.le_refl _)) hd rfl .nil)⟩
      have ext : Ext G s.heap ((s.heap.push { cls := .type "tuple", data := .seq [x].toArray 0 }).push { cls := .type "dict", data := .dict #[] }) := (Ext.push _ _).trans (Ext.push _ _)
      exact ⟨[_, _], [.tup [.str p], .ref _], _, rfl, ext, g2, .cons (.tup (n := 0) (Heap.get?_push_of_some _ (Heap.get?_push_size _ rfl)) (.cons (r1.ext ext) .nil)) (.cons (.raw _) .nil), _, ep, rfl, Sub.new (g1.hs.fresh (Heap.size_none _)) _, upd_same _ _ _⟩
  case h =>
    rintro L vs' σ' ⟨ka, ep, rfl, hs, hk⟩
    suffices key : ∀ A', Room A' 4 → EX G A' (envK G 37 L pm cd doc) (bodyOf 37) (bindV [("args", .tup [.str p]), ("kwargs", .ref ka)] fun _ => none) σ' (fun fl _ σ' => Q (retOf fl) σ') from key _ hr.deeper
    intro A' hr'
    conv in bodyOf 37 => whnf
    walk_at "ev"
    refine EV.call 36 ?_
    walk_at "ev"
    refine EV.call 34 ?_
    walk_at "ev"
    refine c_path (hr'.less (by decide)) hk ?_
    walk_at "ev"
    refine normpath_ N (hr'.less (by decide)) fun σ'' h'' => ?_
    exact q _ (hs.trans h'')
end
section
variable {G : Gl} {A : Around} {σ : Store} {Q : V → Store → Prop} {K : Frag} {C fI fN : Addr}
noncomputable def dv (l : List (Str × Int)) : List (Str × V) := l.map fun p => (p.1, .int p.2)
noncomputable def dget (l : List (Str × Int)) (k : Str) : Option Int := (l.find? fun p => p.1 = k).map (·.2)
theorem vat_dv (l : List (Str × Int)) (k : Str) : vat (dv l) k = (dget l k).map .int := by
  unfold vat dget dv
  rw [List.find?_map]
  cases h : l.find? fun p => p.1 = k with
  | none => simp only [Function.comp_def]; rw [h]; rfl
  | some p => simp only [Function.comp_def]; rw [h]; rfl
/-- the reader -/
structure RD (C : Addr) (σ : Store) (x d m dd g : Addr) (mod : Str) (dirs : List Str) (kv : List (Str × Int)) : Prop where
  ix : σ x = some (.inst C d)
  id : σ d = some (.attrs [("_mods", .ref m), ("_dirs", .ref dd), ("_ignore", .ref g)])
  im : σ m = some (.set1 mod 1)
  idd : σ dd = some (.list (dirs.map .str))
  ig : σ g = some (.dicS (dv kv))
theorem RD.sub {σ σ' : Store} {x d m dd g : Addr} {mod : Str} {dirs : List Str} {kv : List (Str × Int)} (r : RD C σ x d m dd g mod dirs kv) (s : Sub σ σ') : RD C σ' x d m dd g mod dirs kv :=
  ⟨s _ _ r.ix, s _ _ r.id, s _ _ r.im, s _ _ r.idd, s _ _ r.ig⟩
theorem RD.put {σ : Store} {x d m dd g : Addr} {mod : Str} {dirs : List Str} {kv kv' : List (Str × Int)} (r : RD C σ x d m dd g mod dirs kv) : RD C (upd σ g (.dicS (dv kv'))) x d m dd g mod dirs kv' := by
  refine ⟨?_, ?_, ?_, ?_, upd_same _ _ _⟩
  · rw [upd_ne]; exact r.ix; rintro rfl; have := r.ix; rw [r.ig] at this; cases this
  · rw [upd_ne]; exact r.id; rintro rfl; have := r.id; rw [r.ig] at this; cases this
  · rw [upd_ne]; exact r.im; rintro rfl; have := r.im; rw [r.ig] at this; cases this
  · rw [upd_ne]; exact r.idd; rintro rfl; have := r.idd; rw [r.ig] at this; cases this
noncomputable def ansN (mod : Str) (dirs : List Str) (fn : Option Str) (mn : Str) : Int :=
  if mn = mod ∨ Txt.startswith mn (mod ++ Str.ofString ".") = true then 1 else match fn with
    | none => 1
    | some f => if (dirs.any fun d => Txt.startswith f (d ++ Str.ofString "/")) = true then 1 else 0
noncomputable def fnV : Option Str → V
  | none => .none
  | some f => .str f
noncomputable def nres (mod : Str) (dirs : List Str) (kv : List (Str × Int)) (fn : Option Str) (mn : Str) : Int × List (Str × Int) := match dget kv mn with
  | some a => (a, kv)
  | none => (ansN mod dirs fn mn, kv ++ [(mn, ansN mod dirs fn mn)])
theorem dv_snoc (kv : List (Str × Int)) (k : Str) (a : Int) : dv kv ++ [(k, .int a)] = dv (kv ++ [(k, a)]) := by unfold dv; rw [List.map_append]; rfl
theorem setret {env : Env} {ρ : Rho} (c : GC G K C fI fN) {x d m dd g : Addr} {mod mn : Str} {dirs : List Str} {kv : List (Str × Int)} {i : Int} {p1 p2 p3 p4 p5 p6 p7 p8 : Pos} {k k' : Nat} {Q : F → Rho → Store → Prop} (rd : RD C σ x d m dd g mod dirs kv) (hkv : kv.length ≤ 1000) (hn : dget kv mn = none)
    (h1 : ρ "self" = some (.ref x)) (h2 : ρ "modulename" = some (.str mn)) (k1 : env.kindOf "self" = some .local) (k2 : env.kindOf "modulename" = some .local) (q : RD C (upd σ g (.dicS (dv (kv ++ [(mn, i)])))) x d m dd g mod dirs (kv ++ [(mn, i)]) → Q (.ret (.int i)) ρ (upd σ g (.dicS (dv (kv ++ [(mn, i)]))))) :
    EX G A env [.Assign [.Subscript (.Attribute (.Name "self" p1) "_ignore" p2) (.Name "modulename" p3) p4] (.Constant (.int i) k p5) p6, .Return (some (.Constant (.int i) k' p7)) p8] ρ σ Q := by
  refine EX.cons (ES.asg (EV.int (AS.sub (EV.attr c (by decide) (EV.loc h1 ⟨x, d, _, _, rfl, rd.ix, rd.id, rfl, ?_⟩ k1)))))
  refine EV.loc h2 ?_ k2
  refine SI.dicS rd.ig (by unfold dv; rw [List.length_map]; (first | lia | omega)) (by rw [vat_dv, hn]; rfl) ?_
  rw [dv_snoc]
  walk_at "ev"
  exact q rd.put
theorem names_ (c : GC G K C fI fN) (X : GX G) {x d m dd g : Addr} {mod mn : Str} {dirs : List Str} {kv : List (Str × Int)} {fn : Option Str} (hr : Room A 2) (rd : RD C σ x d m dd g mod dirs kv) (hkv : kv.length ≤ 1000) (hm : mod.length ≤ 1000) (hd : ∀ y ∈ dirs, y.length ≤ 1000)
    (q : ∀ σ', (σ' = σ ∨ ∃ kv', σ' = upd σ g (.dicS (dv kv'))) → RD C σ' x d m dd g mod dirs (nres mod dirs kv fn mn).2 → Q (.int (nres mod dirs kv fn mn).1) σ') : FN G A (.ref fN) [.ref x, fnV fn, .str mn] σ Q := by
  obtain ⟨pm, cd, doc, hf⟩ := c.fnN
  refine FN.ofC (FC.fdB (n := 1) (ps := ["self", "filename", "modulename"]) (K := fun vs' σ' => vs' = [.ref x, fnV fn, .str mn] ∧ σ' = σ) hf hr rfl rfl rfl rfl ?hb (by show ([Str.ofString "self", Str.ofString "filename", Str.ofString "modulename"].all fun y => (mScope 1).names.lookup y == some .local || (mScope 1).names.lookup y == some .cell) = true; decide +kernel) (by show (mScope 1).isCoroutine = false; decide +kernel) (by show (mScope 1).isGenerator = false; decide +kernel) (by show (mScope 1).kind = .function; decide +kernel) ?h)
  case hb =>
    intro keep s xs E sg r
    obtain ⟨a, b, e, rfl⟩ := len_list3 (r.length.symm.trans rfl)
    have e' : bindArgs (mfd 1 "names" "_Ignore.names" .none pm cd doc) ⟨[a, b, e], []⟩ = pure [(Str.ofString "self", a), (Str.ofString "filename", b), (Str.ofString "modulename", e)] := rfl
    rw [e']
    exact wpAny_pure ⟨_, _, _, rfl, .refl _, sg, r, rfl, rfl⟩
  case h =>
    rintro L vs' σ' ⟨rfl, rfl⟩
    suffices key : ∀ A', Room A' 1 → EX G A' (callEnvC (mfd 1 "names" "_Ignore.names" .none pm cd doc) L fN) (mBody 1) (bindV [("self", .ref x), ("filename", fnV fn), ("modulename", .str mn)] fun _ => none) σ' (fun fl _ σ' => Q (retOf fl) σ') from key _ hr.deeper
    intro A' hr'
    conv in mBody 1 => whnf
    walk_at "ev"
    have nret : ∀ i kv', nres mod dirs kv fn mn = (i, kv') → ∀ σ'', (σ'' = σ' ∨ ∃ kv', σ'' = upd σ' g (.dicS (dv kv'))) → RD C σ'' x d m dd g mod dirs kv' → Q (.int i) σ'' := fun i kv' e σ'' h1 h2 => by
      have := q σ'' h1
      rw [e] at this; exact this h2
    refine EV.attr c (by decide) (EV.loc rfl ⟨x, d, _, _, rfl, rd.ix, rd.id, rfl, ?_⟩)
    refine OP.inD rd.ig ?_
    walk_at "ev"
    rw [vat_dv]
    cases hg : dget kv mn with
    | some a =>
      refine ifTe rfl ?_
      walk_at "ev"
      refine EV.attr c (by decide) (EV.loc rfl ⟨x, d, _, _, rfl, rd.ix, rd.id, rfl, ?_⟩)
      walk_at "ev"
      refine GI.dicS rd.ig (v := .int a) (by rw [vat_dv, hg]; rfl) ?_
      exact nret a kv (by unfold nres; rw [hg]) _ (.inl rfl) rd
    | none =>
      have nr : ∀ i, ansN mod dirs fn mn = i → RD C (upd σ' g (.dicS (dv (kv ++ [(mn, i)])))) x d m dd g mod dirs (kv ++ [(mn, i)]) → Q (.int i) (upd σ' g (.dicS (dv (kv ++ [(mn, i)])))) := fun i e r => nret i _ (by unfold nres; rw [hg, e]) _ (.inr ⟨_, rfl⟩) r
      refine ifFe rfl ?_
      walk_at "ev"
      refine EV.attr c (by decide) (EV.loc rfl ⟨x, d, _, _, rfl, rd.ix, rd.id, rfl, ?_⟩)
      refine OP.inSet rd.im ?_
      walk_at "ev"
      refine iteD (fun h1 => ?_) fun h1 => ?_
      · exact setret c rd hkv hg rfl rfl rfl rfl (nr 1 (if_pos (.inl h1)))
      walk_at "ev"
      refine ES.for (IT.val ?_)
      refine EV.attr c (by decide) (EV.loc rfl ⟨x, d, _, _, rfl, rd.ix, rd.id, rfl, ?_⟩)
      refine ITV.set1 hr'.hd rd.im ?_
      refine ⟨fun i ρ σ'' => ρ "self" = some (.ref x) ∧ ρ "filename" = some (fnV fn) ∧ ρ "modulename" = some (.str mn) ∧ σ'' = σ' ∧ (i = 1 → Txt.startswith mn (mod ++ Str.ofString ".") = false), ⟨rfl, rfl, rfl, rfl, fun h => by cases h⟩, ?_, ?_⟩
      · rintro i v ρ σ'' hv hC ⟨e1, e2, e3, rfl, -⟩
        obtain ⟨rfl, rfl⟩ : i = 0 ∧ v = .str mod := by
          cases i with
          | zero => cases hv; exact ⟨rfl, rfl⟩
          | succ i => cases hv
        walk_at "ev"
        refine EV.meth "str.startswith" ?_
        walk_at "ev"
        refine ⟨GM.strM PySem.F.slot_str_startswith PySem.F.type_str_startswith, ?_⟩
        walk_at "ev"
        refine OP.cat (by have : (Str.ofString ".").length = 1 := rfl; (first | lia | omega)) ?_
        walk_at "ev"
        refine FN.starts ?_
        walk_at "ev"
        refine iteB (fun h2 => ?_) fun h2 => ?_
        · exact setret c rd hkv hg e1 e3 rfl rfl (nr 1 (if_pos (.inr h2)))
        · walk_at "ev"
          exact ⟨hC, e1, e2, e3, rfl, fun _ => h2⟩
      · rintro ρ σ'' hC ⟨e1, e2, e3, rfl, h2⟩
        replace h2 := h2 rfl
        have hneg : ¬ (mn = mod ∨ Txt.startswith mn (mod ++ Str.ofString ".") = true) := by
          rintro (z | z)
          · exact h1 z
          · rw [h2] at z; cases z
        walk_at "ev"
        cases fn with
        | none =>
          refine OP.isNN (TV.bool (ifT ?_))
          refine setret c rd hkv hg e1 e3 rfl rfl ?_
          exact nr 1 (if_neg hneg)
        | some f =>
          refine OP.isSN ?_
          walk_at "ev"
          refine ES.for (IT.val ?_)
          refine EV.attr c (by decide) (EV.loc e1 ⟨x, d, _, _, rfl, rd.ix, rd.id, rfl, ?_⟩)
          refine ITV.list hr'.hd rd.idd ?_
          refine ⟨fun i ρ τ => ρ "self" = some (.ref x) ∧ ρ "filename" = some (.str f) ∧ ρ "modulename" = some (.str mn) ∧ τ = σ''  ∧ ((dirs.take i).any fun d => Txt.startswith f (d ++ Str.ofString "/")) = false, ⟨e1, e2, e3, rfl, rfl⟩, ?_, ?_⟩
          · rintro i v ρ τ hv hC2 ⟨e1, e2, e3, rfl, h3⟩
            rw [List.getElem?_map] at hv
            cases hx : dirs[i]? with
            | none => rw [hx] at hv; cases hv
            | some y =>
              rw [hx] at hv; cases hv
              walk_at "ev"
              refine EV.meth "str.startswith" ?_
              walk_at "ev"
              refine ⟨GM.strM PySem.F.slot_str_startswith PySem.F.type_str_startswith, ?_⟩
              walk_at "ev"
              obtain ⟨ts, hts⟩ := X.sep
              refine EV.glob hts (fun _ _ => .str _ _) ?_
              refine OP.cat (by have : (Str.ofString "/").length = 1 := rfl; have := hd y (List.mem_of_getElem? hx); (first | lia | omega)) ?_
              walk_at "ev"
              refine FN.starts ?_
              walk_at "ev"
              refine iteB (fun h4 => ?_) fun h4 => ?_
              · refine setret c rd hkv hg e1 e3 rfl rfl (nr 1 ?_)
                unfold ansN
                rw [if_neg hneg]
                exact if_pos (List.any_eq_true.mpr ⟨y, List.mem_of_getElem? hx, h4⟩)
              · walk_at "ev"
                refine ⟨hC2, e1, e2, e3, rfl, ?_⟩
                rw [List.take_add_one, hx, List.any_append, h3]
                simpa using h4
          · rintro ρ τ hC ⟨e1, e2, e3, rfl, h3⟩
            rw [List.length_map, List.take_length] at h3
            refine EX.nil ?_
            refine setret c rd hkv hg e1 e3 rfl rfl (nr 0 ?_)
            unfold ansN
            rw [if_neg hneg]
            exact if_neg (by rw [h3]; exact Bool.false_ne_true)
end
section
variable {G : Gl} {A : Around} {σ : Store} {Q : V → Store → Prop} {K : Frag} {C fI fN : Addr}
theorem init_ (c : GC G K C fI fN) {x d a b : Addr} {mod : Str} {ds : List Str} (hr : Room A 9) (hxd : x ≠ d) (sx : σ x = none) (sd : σ d = none) (ha : σ a = some (.list [.str mod])) (hb : σ b = some (.list (ds.map .str))) (hds : ds.isEmpty = false) (hlen : ds.length ≤ 10) (hnp : ∀ y ∈ ds, ∃ cs, NP y cs)
    (q : ∀ m dd g σ', Sub σ σ' → RD C σ' x d m dd g mod ds [("<string>", 1)] → Q .none σ') : FC G A (.ref fI) [.ref x, .ref a, .ref b] (upd (upd σ d (.attrs [])) x (.inst C d)) Q := by
  obtain ⟨T, pm, cd, doc, oT, nT, hf, hT, hTd⟩ := c.fnI
  refine FC.fdB (n := 8) (ps := ["self", "modules", "dirs"]) (K := fun vs' σ' => vs' = [.ref x, .ref a, .ref b] ∧ σ' = upd (upd σ d (.attrs [])) x (.inst C d)) hf hr rfl rfl rfl rfl ?hb (by show ([Str.ofString "self", Str.ofString "modules", Str.ofString "dirs"].all fun y => (mScope 0).names.lookup y == some .local || (mScope 0).names.lookup y == some .cell) = true; decide +kernel) (by show (mScope 0).isCoroutine = false; decide +kernel) (by show (mScope 0).isGenerator = false; decide +kernel) (by show (mScope 0).kind = .function; decide +kernel) ?h
  case hb =>
    intro keep s xs E sg r
    obtain ⟨a, b, e, rfl⟩ := len_list3 (r.length.symm.trans rfl)
    show wpAny _ _ (seqItems? (.ref T) >>= _) _ _ s
    refine wpAny_bind (wpAny_seqItems (sg.hs.H _ _ hT) hTd ?_)
    show wpAny _ _ (pure [(Str.ofString "self", a), (Str.ofString "modules", b), (Str.ofString "dirs", e)]) _ _ s
    exact wpAny_pure ⟨_, _, _, rfl, .refl _, sg, r, rfl, rfl⟩
  case h =>
    rintro L vs' σ' ⟨rfl, rfl⟩
    suffices key : ∀ A', Room A' 8 → EX G A' (callEnvC (mfd 0 "__init__" "_Ignore.__init__" (.ref T) pm cd doc) L fI) (mBody 0) (bindV [("self", .ref x), ("modules", .ref a), ("dirs", .ref b)] fun _ => none) (upd (upd σ d (.attrs [])) x (.inst C d)) (fun fl _ σ' => Q (retOf fl) σ') from key _ hr.deeper
    intro A' hr'
    have s0 : Sub σ (upd (upd σ d (.attrs [])) x (.inst C d)) := (Sub.new sd _).put sx _
    have x0 : (upd (upd σ d (.attrs [])) x (.inst C d)) x = some (.inst C d) := upd_same _ _ _
    have d0 : (upd (upd σ d (.attrs [])) x (.inst C d)) d = some (.attrs []) := by rw [upd_ne _ _ hxd.symm]; exact upd_same _ _ _
    generalize upd (upd σ d (.attrs [])) x (.inst C d) = σ0 at s0 x0 d0
    conv in mBody 0 => whnf
    walk_at "ev"
    refine TV.list (s0 _ _ ha) (by show 1 ≤ 1000; decide) ?_
    refine ifFe rfl ?_
    refine EV.bt rfl ?_
    walk_at "ev"
    refine FN.set1 hr'.hd (s0 _ _ ha) fun m hm => ?_
    refine AS.attr c (by decide) (EV.loc rfl ⟨x, d, [], rfl, Sub.new hm _ _ _ x0, Sub.new hm _ _ _ d0, rfl, by decide, ?_⟩)
    have hmd : m ≠ d := by rintro rfl; rw [d0] at hm; cases hm
    have hmx : m ≠ x := by rintro rfl; rw [x0] at hm; cases hm
    have s1 : Sub σ (upd (upd σ0 m (.set1 mod 1)) d (.attrs ([] ++ [(Str.ofString "_mods", .ref m)]))) := (s0.trans (Sub.new hm _)).put sd _
    have x1 : (upd (upd σ0 m (.set1 mod 1)) d (.attrs ([] ++ [(Str.ofString "_mods", .ref m)]))) x = some (.inst C d) := by rw [upd_ne _ _ hxd, upd_ne _ _ hmx.symm]; exact x0
    have d1 : (upd (upd σ0 m (.set1 mod 1)) d (.attrs ([] ++ [(Str.ofString "_mods", .ref m)]))) d = some (.attrs [(Str.ofString "_mods", .ref m)]) := upd_same _ _ _
    have m1 : (upd (upd σ0 m (.set1 mod 1)) d (.attrs ([] ++ [(Str.ofString "_mods", .ref m)]))) m = some (.set1 mod 1) := by rw [upd_ne _ _ hmd]; exact upd_same _ _ _
    generalize upd (upd σ0 m (.set1 mod 1)) d (.attrs ([] ++ [(Str.ofString "_mods", .ref m)])) = σ1 at s1 x1 d1 m1
    walk_at "ev"
    refine TV.list (s1 _ _ hb) (by rw [List.length_map]; (first | lia | omega)) ?_
    refine ifFe (by cases ds <;> first | rfl | cases hds) ?_
    refine EV.lc [] ?_ (hfr := trivial) (hsee := fun _ h => absurd h List.not_mem_nil)
    refine IT.val (EV.loc rfl (ITV.list hr'.hd (s1 _ _ hb) ?_))
    refine ⟨fun i acc σ' => Sub σ1 σ' ∧ acc = (ds.take i).map .str, by rw [List.length_map]; (first | lia | omega), ⟨Sub.refl _, rfl⟩, ?_, ?_⟩
    · rintro L' i v acc σ₁ hv hC ⟨hs, rfl⟩
      rw [List.getElem?_map] at hv
      cases hx : ds[i]? with
      | none => rw [hx] at hv; cases hv
      | some y =>
        rw [hx] at hv; cases hv
        obtain ⟨cs, N⟩ := hnp y (List.mem_of_getElem? hx)
        walk_at "ev"
        refine IFS.nil (ifT ?_)
        refine EV.call 37 ?_
        walk_at "ev"
        refine normpath N (hr'.less (by decide)) fun σ₂ s2 => ?_
        refine ⟨s2 _ _ hC, hs.trans s2, ?_⟩
        rw [List.take_add_one, hx, List.map_append]; rfl
    · rintro acc σ₁ - hC ⟨hs, rfl⟩ e he
      rw [List.length_map, List.take_length]
      have hed : e ≠ d := by rintro rfl; rw [hs _ _ d1] at he; cases he
      have hex : e ≠ x := by rintro rfl; rw [hs _ _ x1] at he; cases he
      refine AS.attr c (by decide) (EV.loc rfl ⟨x, d, [(Str.ofString "_mods", .ref m)], rfl, Sub.new he _ _ _ (hs _ _ x1), Sub.new he _ _ _ (hs _ _ d1), rfl, by show 1 ≤ 10; decide, ?_⟩)
      have s2 : Sub σ (upd (upd σ₁ e (.list (ds.map .str))) d (.attrs ([(Str.ofString "_mods", .ref m)] ++ [(Str.ofString "_dirs", .ref e)]))) := ((s1.trans hs).trans (Sub.new he _)).put sd _
      have x2 : (upd (upd σ₁ e (.list (ds.map .str))) d (.attrs ([(Str.ofString "_mods", .ref m)] ++ [(Str.ofString "_dirs", .ref e)]))) x = some (.inst C d) := by rw [upd_ne _ _ hxd, upd_ne _ _ hex.symm]; exact hs _ _ x1
      have d2 : (upd (upd σ₁ e (.list (ds.map .str))) d (.attrs ([(Str.ofString "_mods", .ref m)] ++ [(Str.ofString "_dirs", .ref e)]))) d = some (.attrs [(Str.ofString "_mods", .ref m), (Str.ofString "_dirs", .ref e)]) := upd_same _ _ _
      have m2 : (upd (upd σ₁ e (.list (ds.map .str))) d (.attrs ([(Str.ofString "_mods", .ref m)] ++ [(Str.ofString "_dirs", .ref e)]))) m = some (.set1 mod 1) := by rw [upd_ne _ _ hmd]; exact Sub.new he _ _ _ (hs _ _ m1)
      have e2 : (upd (upd σ₁ e (.list (ds.map .str))) d (.attrs ([(Str.ofString "_mods", .ref m)] ++ [(Str.ofString "_dirs", .ref e)]))) e = some (.list (ds.map .str)) := by rw [upd_ne _ _ hed]; exact upd_same _ _ _
      generalize upd (upd σ₁ e (.list (ds.map .str))) d (.attrs ([(Str.ofString "_mods", .ref m)] ++ [(Str.ofString "_dirs", .ref e)])) = σ2 at s2 x2 d2 m2 e2
      walk_at "ev"
      refine EV.dictS [(Str.ofString "<string>", .int 1)] rfl rfl rfl (by decide) ⟨rfl, rfl, by simp, by decide⟩ fun g hg => ?_
      have hgd : g ≠ d := by rintro rfl; rw [d2] at hg; cases hg
      refine AS.attr c (by decide) (EV.loc rfl ⟨x, d, [(Str.ofString "_mods", .ref m), (Str.ofString "_dirs", .ref e)], rfl, Sub.new hg _ _ _ x2, Sub.new hg _ _ _ d2, rfl, by show 2 ≤ 10; decide, ?_⟩)
      walk_at "ev"
      refine q m e g _ ((s2.trans (Sub.new hg _)).put sd _) ⟨?_, upd_same _ _ _, ?_, ?_, ?_⟩
      · rw [upd_ne _ _ hxd]; exact Sub.new hg _ _ _ x2
      · rw [upd_ne _ _ hmd]; exact Sub.new hg _ _ _ m2
      · rw [upd_ne _ _ hed]; exact Sub.new hg _ _ _ e2
      · rw [upd_ne _ _ hgd]; exact upd_same _ _ _
end
section
variable {G : Gl} {A : Around} {σ : Store} {Q : V → Store → Prop} {K : Frag} {C fI fN : Addr}
/-- a list of eleven -/
noncomputable def LS (σ : Store) (a : Addr) (f : Nat → V) : Prop := ∃ vs, σ a = some (.list vs) ∧ vs.length ≤ 11 ∧ ∀ k, 0 < k → k ≤ 10 → vs[k]? = some (f k)
/-- all but one object stays -/
noncomputable def SubX (g : Addr) (σ σ' : Store) : Prop := ∀ a o, a ≠ g → σ a = some o → σ' a = some o
theorem SubX.of {g : Addr} {σ σ' : Store} (s : Sub σ σ') : SubX g σ σ' := fun a o _ h => s a o h
theorem SubX.trans {g : Addr} {σ σ' σ'' : Store} (s : SubX g σ σ') (t : SubX g σ' σ'') : SubX g σ σ'' := fun a o n h => t a o n (s a o n h)
theorem SubX.upd (g : Addr) (σ : Store) (o : O) : SubX g σ (upd σ g o) := fun a p n h => by rw [upd_ne _ _ n]; exact h
theorem SubX.put {g a : Addr} {σ σ' : Store} (s : SubX g σ σ') (h : σ a = none) (o : O) : SubX g σ (Mine.upd σ' a o) := fun b p n hb => by rw [upd_ne]; exact s b p n hb; rintro rfl; rw [h] at hb; cases hb
theorem LS.subX {g a : Addr} {σ σ' : Store} {f : Nat → V} (x : LS σ a f) (s : SubX g σ σ') (hg : ∀ vs, σ g ≠ some (.list vs)) : LS σ' a f := by
  obtain ⟨vs, h1, h2, h3⟩ := x
  exact ⟨vs, s _ _ (by rintro rfl; exact hg _ h1) h1, h2, h3⟩
noncomputable def keyW (rw : Nat → Str) (k : Nat) : Key := (sslice (rw k) (some 1) none none, (k : Int))
noncomputable def kidsW (p : Nat → Nat) (k : Nat) : List Nat := ((List.range 10).map (· + 1)).filter fun j => p j == k
noncomputable def pushes (rw : Nat → Str) (h : List Key) (js : List Nat) : List Key := js.foldl (fun h j => pushL h (keyW rw j)) h
noncomputable def goB (s : Str) : Bool := !((((sslice s (some 3) none (some 3)).cps.toList.map fun c => (⟨#[c]⟩ : Str)).filter fun y => [Str.ofString "x", Str.ofString "s", Str.ofString "t"].any (· == y)).isEmpty)
noncomputable def innW (p : Nat → Nat) (md : Nat → Int) (rw : Nat → Str) (k : Nat) (a : Int) : List Nat := if a = 0 ∧ Builtin.bitAnd (md k) 61440 = 16384 ∧ goB (rw k) = true then kidsW p k else []
noncomputable def nextH (rw : Nat → Str) (hp : List Key) (js : List Nat) : List Key := match js with
  | [] => popL hp.dropLast (hp.getLast?.getD (Str.empty, 0))
  | j :: js => pushes rw (replL hp (keyW rw j)) js
noncomputable def toV (q : Nat × Int) : V := .tup [.int (q.1 : Nat), .str (toString q.2)]
theorem pushL_len (ks : List Key) (x : Key) : (pushL ks x).length = ks.length + 1 := by unfold pushL; rw [sdLoop_len, List.length_append]; rfl
theorem pushes_snoc (rw : Nat → Str) (h : List Key) (js : List Nat) (j : Nat) : pushes rw h (js ++ [j]) = pushL (pushes rw h js) (keyW rw j) := by unfold pushes; rw [List.foldl_append]; rfl
theorem pushes_len (rw : Nat → Str) (js : List Nat) : ∀ h : List Key, (pushes rw h js).length = h.length + js.length := by
  induction js with
  | nil => intro h; rfl
  | cons j js ih => intro h; show (pushes rw (pushL h (keyW rw j)) js).length = _; rw [ih, pushL_len, List.length_cons]; (first | lia | omega)
theorem kidsW_take (p : Nat → Nat) (k i : Nat) (hi : i < 10) : (((List.range (i + 1)).map (· + 1)).filter fun j => p j == k) = (((List.range i).map (· + 1)).filter fun j => p j == k) ++ if p (i + 1) = k then [i + 1] else [] := by
  rw [List.range_succ, List.map_append, List.filter_append]
  congr 1
  by_cases h : p (i + 1) = k
  · rw [if_pos h]; simp [h]
  · rw [if_neg h]; simp [h]
theorem walk_start {p : Nat → Nat} {rw : Nat → Str} {pa ra ha : Addr} {σ : Store} (hr : Room A 5) (hpa : LS σ pa fun k => .int (p k : Nat)) (hra : LS σ ra fun k => .str (rw k)) (hlen : ∀ k, 0 < k → k ≤ 10 → (sslice (rw k) (some 1) none none).length ≤ 1000) (hh : σ ha = some (.list [])) {L : Addr} {pm cd doc : Value} {ρ : Rho} {Q : F → Rho → Store → Prop}
    (e1 : ρ "parents" = some (.ref pa)) (e2 : ρ "rows" = some (.ref ra)) (e3 : ρ "heap" = some (.ref ha))
    (q : ∀ ρ', (∀ x : Str, x ≠ "k" → ρ' x = ρ x) → Q .next ρ' (upd σ ha (.list ((pushes rw [] (kidsW p 0)).map tv)))) : ES G A (envK G 46 L pm cd doc) ((bodyOf 46).getD 2 (.Pass default)) ρ σ Q := by
  conv in (bodyOf 46).getD 2 _ => whnf
  refine ES.for (IT.val (EV.bt rfl ?_))
  walk_at "ev"
  refine FN.range2 (ITV.zs hr.hd (by decide) (by decide) (by decide) ?_)
  refine ⟨fun i ρ' σ' => (∀ x : Str, x ≠ "k" → ρ' x = ρ x) ∧ σ' = upd σ ha (.list ((pushes rw [] (((List.range i).map (· + 1)).filter fun j => p j == 0)).map tv)), ⟨fun _ _ => rfl, (upd_self hh).symm⟩, ?_, ?_⟩
  · rintro i v ρ₁ σ₁ hv - ⟨er, rfl⟩
    obtain ⟨rfl, hi⟩ := zseq_get hv
    have hi' : i < 10 := hi10 hi
    have ek := ek1 i
    rw [ek]
    have hplen : ((pushes rw [] (((List.range i).map (· + 1)).filter fun j => p j == 0))).length ≤ 10 := by
      rw [pushes_len]
      have := List.length_filter_le (fun j => p j == 0) ((List.range i).map (· + 1))
      rw [List.length_map, List.length_range] at this
      simp; (first | lia | omega)
    obtain ⟨vp, p1, p2, p3⟩ := hpa
    obtain ⟨vr, r1, r2, r3⟩ := hra
    have hpne : pa ≠ ha := by rintro rfl; rw [hh] at p1; cases p1; have := p3 1 (by decide) (by decide); cases this
    have hrne : ra ≠ ha := by rintro rfl; rw [hh] at r1; cases r1; have := r3 1 (by decide) (by decide); cases this
    have g1 : ρ₁ "parents" = some (.ref pa) := (er _ (by decide)).trans e1
    have g2 : ρ₁ "rows" = some (.ref ra) := (er _ (by decide)).trans e2
    have g3 : ρ₁ "heap" = some (.ref ha) := (er _ (by decide)).trans e3
    walk_at "ev"
    refine GI.listN (by rw [upd_ne _ _ hpne]; exact p1) (p3 (i + 1) (Nat.succ_pos i) hi') (le5 p2) ?_
    walk_at "ev"
    have er' : ∀ x, x ≠ Str.ofString "k" → setv ρ₁ "k" (.int (i + 1 : Nat)) x = ρ x := fun x hx => by
      unfold setv; rw [if_neg hx]; exact er x hx
    refine iteB (fun h => ?_) fun h => ?_
    · have h0 : p (i + 1) = 0 := by have := eq_of_beq h; (first | lia | omega)
      walk_at "ev"
      refine EV.call 2 ?_
      walk_at "ev"
      refine GI.listN (by rw [upd_ne _ _ hrne]; exact r1) (r3 (i + 1) (Nat.succ_pos i) hi') (le5 r2) ?_
      walk_at "ev"
      refine ⟨1, rfl, ?_⟩
      walk_at "ev"
      refine GI.strS (by decide) (by have := hlen (i + 1) (by (first | lia | omega)) (by (first | lia | omega)); (first | lia | omega)) ?_
      walk_at "ev"
      refine ⟨by show 2 ≤ 1000; decide, ?_⟩
      walk_at "ev"
      refine heappush (x := keyW rw (i + 1)) (hr.less (by decide)) (upd_same _ _ _) (by (first | lia | omega)) ?_
      walk_at "ev"
      refine OP.isntNN ?_
      walk_at "ev"
      refine ⟨trivial, er', ?_⟩
      rw [upd_upd, kidsW_take p 0 i hi', if_pos h0, pushes_snoc]
    · have h0 : ¬ p (i + 1) = 0 := fun z => by rw [z] at h; cases h
      walk_at "ev"
      refine ⟨trivial, er', ?_⟩
      rw [kidsW_take p 0 i hi', if_neg h0, List.append_nil]
  · rintro ρ₁ σ₁ - ⟨er, rfl⟩
    walk_at "ev"
    exact q _ er
noncomputable def ib (l : List Stmt) (i : Nat) : List Stmt := match l[i]? with | some (.If _ b _ _) => b | _ => []
theorem walk_rest {rw : Nat → Str} {ha ii : Addr} {hp : List Key} {js : List Nat} {k : Nat} {σ : Store} (hr : Room A 7) (hpl : hp.length ≤ 100) (hjl : js.length ≤ 100) (htop : hp[0]? = some (keyW rw k)) (hh : σ ha = some (.list (hp.map tv))) (hi : σ ii = some (.list (js.map fun j => tv (keyW rw j)))) (hne : ii ≠ ha) {L : Addr} {pm cd doc : Value} {ρ : Rho} {Q : F → Rho → Store → Prop}
    (e1 : ρ "inner" = some (.ref ii)) (e2 : ρ "heap" = some (.ref ha)) (e3 : ρ "top" = some (tv (keyW rw k)))
    (q : ∀ ρ' σ', (∀ y : Str, y ≠ "gone" → y ≠ "item" → ρ' y = ρ y) → (∀ a o, a ≠ ha → σ a = some o → σ' a = some o) → σ' ha = some (.list ((nextH rw hp js).map tv)) → Q .next ρ' σ') :
    EX G A (envK G 46 L pm cd doc) ((ib (wb 46 3) 0).drop 6) ρ σ Q := by
  conv in (ib (wb 46 3) 0).drop 6 => whnf
  walk_at "ev"
  refine TV.list hi (by rw [List.length_map]; (first | lia | omega)) ?_
  cases js with
  | nil =>
    refine ifFe rfl ?_
    walk_at "ev"
    refine EV.call 3 ?_
    walk_at "ev"
    have hpe : hp ≠ [] := by rintro rfl; cases htop
    have hsp : hp.dropLast ++ [hp.getLast?.getD (Str.empty, 0)] = hp := by
      rw [List.getLast?_eq_some_getLast hpe]; exact List.dropLast_concat_getLast hpe
    refine heappop (ks := hp.dropLast) (x := hp.getLast?.getD (Str.empty, 0)) (y := keyW rw k) (hr.less (by decide)) (by rw [hsp]; exact hh) (by rw [List.length_dropLast]; (first | lia | omega)) (by rw [hsp]; exact htop) ?_
    walk_at "ev"
    refine OP.neT hr rfl ?_
    walk_at "ev"
    refine q _ _ ?_ (fun a o n h => by rw [upd_ne _ _ n]; exact h) (upd_same _ _ _)
    intro y n1 n2
    unfold setv
    rw [if_neg n1]
  | cons j js =>
    refine ifTe rfl ?_
    walk_at "ev"
    refine EV.call 4 ?_
    walk_at "ev"
    refine GI.listN (n := 0) hi rfl (by rw [List.length_map]; (first | lia | omega)) ?_
    walk_at "ev"
    refine heapreplace (y := keyW rw k) (hr.less (by decide)) hh (by (first | lia | omega)) htop ?_
    walk_at "ev"
    refine ES.for (IT.val ?_)
    walk_at "ev"
    refine ⟨1, rfl, ?_⟩
    walk_at "ev"
    refine GI.listS (by rw [upd_ne _ _ hne]; exact hi) (by decide) (by rw [List.length_map]; (first | lia | omega)) fun b hb => ?_
    have hvp : vpick ((j :: js).map fun j => tv (keyW rw j)) (some 1) none none = js.map fun j => tv (keyW rw j) := by
      have := vpick_from (vs := (j :: js).map fun j => tv (keyW rw j)) (n := 1) (by simp)
      simpa using this
    rw [hvp]
    have hbh : b ≠ ha := by rintro rfl; rw [upd_same] at hb; cases hb
    have hb' : σ b = none := by rw [upd_ne _ _ hbh] at hb; exact hb
    refine ITV.list hr.hd (upd_same _ _ _) ?_
    have hrl : (replL hp (keyW rw j)).length = hp.length := by
      unfold replL
      rw [siftupL_len (by rw [List.length_set]; exact (List.getElem?_eq_some_iff.mp htop).1), List.length_set]
    refine ⟨fun i ρ' σ' => ρ' "gone" = some (tv (keyW rw k)) ∧ (∀ y : Str, y ≠ "gone" → y ≠ "item" → ρ' y = ρ y) ∧ (∀ a o, a ≠ ha → σ a = some o → σ' a = some o) ∧ σ' ha = some (.list ((pushes rw (replL hp (keyW rw j)) (js.take i)).map tv)), ⟨rfl, ?_, ?_, ?_⟩, ?_, ?_⟩
    · intro y n1 n2; unfold setv; rw [if_neg n1]
    · intro a o n h
      rw [upd_ne, upd_ne _ _ n]; exact h
      rintro rfl; rw [hb'] at h; cases h
    · rw [upd_ne _ _ hbh.symm]; exact upd_same _ _ _
    · rintro i v ρ₁ σ₁ hv hC ⟨f1, f2, f3, f4⟩
      rw [List.getElem?_map] at hv
      cases hx : js[i]? with
      | none => rw [hx] at hv; cases hv
      | some z =>
        rw [hx] at hv; cases hv
        have g1 : ρ₁ "heap" = some (.ref ha) := (f2 _ (by decide) (by decide)).trans e2
        walk_at "ev"
        refine EV.call 2 ?_
        walk_at "ev"
        have hlj := (List.getElem?_eq_some_iff.mp hx).1
        simp only [List.length_cons] at hjl
        refine heappush (x := keyW rw z) (hr.less (by decide)) f4 (by rw [pushes_len, hrl, List.length_take]; (first | lia | omega)) ?_
        walk_at "ev"
        refine OP.isntNN ?_
        walk_at "ev"
        refine ⟨(upd_ne _ _ hbh).trans hC, f1, ?_, fun a o n h => by rw [upd_ne _ _ n]; exact f3 a o n h, ?_⟩
        · intro y n1 n2; unfold setv; rw [if_neg n2]; exact f2 y n1 n2
        · rw [upd_same, List.take_add_one, hx]; show _ = some (O.list ((pushes rw _ (js.take i ++ [z])).map tv)); rw [pushes_snoc]
    · rintro ρ₁ σ₁ hC ⟨f1, f2, f3, f4⟩
      rw [List.length_map, List.take_length] at f4
      have g3 : ρ₁ "top" = some (tv (keyW rw k)) := (f2 _ (by decide) (by decide)).trans e3
      walk_at "ev"
      refine OP.neT hr rfl ?_
      walk_at "ev"
      exact q _ _ f2 f3 f4
theorem walk_turn {p : Nat → Nat} {md : Nat → Int} {rw pt nn : Nat → Str} {pa ma ra ta na ha to x d m dd g : Addr} {mod : Str} {dirs : List Str} {kv : List (Str × Int)} {hp : List Key} {tl : List (Nat × Int)} {k : Nat} {σ : Store} (c : GC G K C fI fN) (X : GX G) (hr : Room A 7)
    (hpa : LS σ pa fun k => .int (p k : Nat)) (hma : LS σ ma fun k => .int (md k)) (hra : LS σ ra fun k => .str (rw k)) (hta : LS σ ta fun k => .str (pt k)) (hna : LS σ na fun k => .str (nn k)) (hrd : RD C σ x d m dd g mod dirs kv)
    (hlen : ∀ k, 0 < k → k ≤ 10 → (rw k).length ≤ 1000 ∧ (sslice (rw k) (some 1) none none).length ≤ 1000 ∧ (sslice (rw k) (some 3) none (some 3)).length ≤ 1000 ∧ (sslice (rw k) (some 3) none (some 3)).cps.all (· < 128) = true) (hm : mod.length ≤ 1000) (hd : ∀ y ∈ dirs, y.length ≤ 1000)
    (hkv : kv.length ≤ 100) (hpl : hp.length ≤ 100) (htl : tl.length ≤ 100) (k0 : 0 < k) (k10 : k ≤ 10) (htop : hp[0]? = some (keyW rw k)) (hans : ∀ k, 0 < k → k ≤ 10 → (nres mod dirs kv (some (pt k)) (nn k)).1 = 0 ∨ (nres mod dirs kv (some (pt k)) (nn k)).1 = 1)
    (hh : σ ha = some (.list (hp.map tv))) (hto : σ to = some (.list (tl.map toV))) (hhne : ∀ a ∈ [pa, ma, ra, ta, na, to], a ≠ ha) (htne : ∀ a ∈ [pa, ma, ra, ta, na], a ≠ to) (hdt : dd ≠ to) (hdh : dd ≠ ha) {L : Addr} {pm cd doc : Value} {ρ : Rho} {Q : F → Rho → Store → Prop}
    (e1 : ρ "parents" = some (.ref pa)) (e2 : ρ "modes" = some (.ref ma)) (e3 : ρ "rows" = some (.ref ra)) (e4 : ρ "paths" = some (.ref ta)) (e5 : ρ "names" = some (.ref na)) (e6 : ρ "reader" = some (.ref x)) (e7 : ρ "told" = some (.ref to)) (e8 : ρ "heap" = some (.ref ha))
    (q : ∀ ρ' σ', (∀ y : Str, y ∈ [Str.ofString "parents", "modes", "rows", "paths", "names", "reader", "told", "heap"] → ρ' y = ρ y) → (∀ a o, a ≠ g → a ≠ ha → a ≠ to → σ a = some o → σ' a = some o) →
      σ' ha = some (.list ((nextH rw hp (innW p md rw k (nres mod dirs kv (some (pt k)) (nn k)).1)).map tv)) → σ' to = some (.list ((tl ++ [(k, (nres mod dirs kv (some (pt k)) (nn k)).1)]).map toV)) → RD C σ' x d m dd g mod dirs (nres mod dirs kv (some (pt k)) (nn k)).2 → Q .next ρ' σ') :
    EX G A (envK G 46 L pm cd doc) (wb 46 3) ρ σ Q := by
  conv in wb 46 3 => whnf
  walk_at "ev"
  refine TV.list hh (by rw [List.length_map]; (first | lia | omega)) ?_
  have hne : hp ≠ [] := by rintro rfl; cases htop
  refine ifTe (by cases hp <;> first | rfl | exact absurd rfl hne) ?_
  walk_at "ev"
  refine GI.listN (n := 0) hh (map_get htop) (by rw [List.length_map]; (first | lia | omega)) ?_
  walk_at "ev"
  refine GI.tup (v := .int (k : Nat)) (by decide) rfl (by show 2 ≤ 100000; decide) ?_
  walk_at "ev"
  have hgl : ∀ a vs, σ a = some (.list vs) → a ≠ g := fun a vs h => by rintro rfl; rw [hrd.ig] at h; cases h
  obtain ⟨vp, p1, p2, p3⟩ := hpa
  obtain ⟨vm, m1, m2, m3⟩ := hma
  obtain ⟨vr, r1, r2, r3⟩ := hra
  obtain ⟨vt, t1, t2, t3⟩ := hta
  obtain ⟨vn, n1, n2, n3⟩ := hna
  obtain ⟨l1, l2, l3, l4⟩ := hlen k k0 k10
  refine EV.methR c ?_
  refine EV.loc e6 ⟨x, d, _, rfl, hrd.ix, hrd.id, rfl, ?_⟩
  walk_at "ev"
  refine GI.listN t1 (t3 k k0 k10) (le5 t2) ?_
  walk_at "ev"
  refine GI.listN n1 (n3 k k0 k10) (le5 n2) ?_
  walk_at "ev"
  refine names_ c X (fn := some (pt k)) (hr.less (by decide)) hrd (by (first | lia | omega)) hm hd fun σ₁ h1 rd1 => ?_
  have hna := hans k k0 k10
  generalize hres : nres mod dirs kv (some (pt k)) (nn k) = res at hna rd1 q
  obtain ⟨a, kv'⟩ := res
  dsimp only at hna rd1 q ⊢
  have s1 : ∀ b o, b ≠ g → σ b = some o → σ₁ b = some o := fun b o n h => by
    rcases h1 with rfl | ⟨kv', rfl⟩
    · exact h
    · rw [upd_ne _ _ n]; exact h
  have hto1 := s1 _ _ (hgl _ _ hto) hto
  walk_at "ev"
  refine EV.meth "list.append" ?_
  walk_at "ev"
  refine ⟨GM.append hto1, ?_⟩
  walk_at "ev"
  refine EV.bt rfl ?_
  walk_at "ev"
  refine FN.strI (by rcases hna with rfl | rfl <;> decide) ?_
  walk_at "ev"
  refine ⟨by show 2 ≤ 1000; decide, ?_⟩
  walk_at "ev"
  refine FN.append hto1 (by rw [List.length_map]; (first | lia | omega)) ?_
  have hsn : tl.map toV ++ [.tup [.int (k : Nat), .str (toString a)]] = (tl ++ [(k, a)]).map toV := by rw [List.map_append]; rfl
  rw [hsn]
  have rd2 : RD C (upd σ₁ to (.list ((tl ++ [(k, a)]).map toV))) x d m dd g mod dirs kv' := by
    refine ⟨?_, ?_, ?_, ?_, ?_⟩
    · rw [upd_ne]; exact rd1.ix; rintro rfl; have := rd1.ix; rw [hto1] at this; cases this
    · rw [upd_ne]; exact rd1.id; rintro rfl; have := rd1.id; rw [hto1] at this; cases this
    · rw [upd_ne]; exact rd1.im; rintro rfl; have := rd1.im; rw [hto1] at this; cases this
    · rw [upd_ne]; exact rd1.idd; exact hdt
    · rw [upd_ne]; exact rd1.ig; rintro rfl; have := rd1.ig; rw [hto1] at this; cases this
  have s2 : ∀ b o, b ≠ g → b ≠ to → σ b = some o → (upd σ₁ to (.list ((tl ++ [(k, a)]).map toV))) b = some o := fun b o n n' h => by rw [upd_ne _ _ n']; exact s1 b o n h
  have to2 : (upd σ₁ to (.list ((tl ++ [(k, a)]).map toV))) to = some (.list ((tl ++ [(k, a)]).map toV)) := upd_same _ _ _
  generalize upd σ₁ to (.list ((tl ++ [(k, a)]).map toV)) = σ₂ at rd2 s2 to2
  walk_at "ev"
  refine ⟨by decide, fun i0 hi0 => ?_⟩
  have s3 : ∀ b o, b ≠ g → b ≠ to → σ b = some o → (upd σ₂ i0 (.list [])) b = some o := fun b o n n' h => Sub.new hi0 _ _ _ (s2 b o n n' h)
  have rd3 := rd2.sub (Sub.new hi0 (.list []))
  have to3 := Sub.new hi0 (.list []) _ _ to2
  have i3 : (upd σ₂ i0 (.list [])) i0 = some (.list []) := upd_same _ _ _
  have i0h : i0 ≠ ha := by rintro rfl; rw [s2 _ _ (hgl _ _ hh) (hhne to (by simp)).symm hh] at hi0; cases hi0
  generalize upd σ₂ i0 (.list []) = σ₃ at s3 rd3 to3 i3
  have rest : ∀ (ii : Addr) (σ₅ : Store) (ρ₅ : Rho), Sub σ₃ σ₅ → ii ≠ ha → σ₅ ii = some (.list ((innW p md rw k a).map fun j => tv (keyW rw j))) → (∀ y : Str, y ∈ [Str.ofString "parents", "modes", "rows", "paths", "names", "reader", "told", "heap"] → ρ₅ y = ρ y) → ρ₅ "top" = some (tv (keyW rw k)) → ρ₅ "inner" = some (.ref ii) →
      EX G A (envK G 46 L pm cd doc) ((ib (wb 46 3) 0).drop 6) ρ₅ σ₅ fun f ρ' σ' => match f with | .next => EX G A (envK G 46 L pm cd doc) [] ρ' σ' Q | f => Q f ρ' σ' := by
    intro ii σ₅ ρ₅ hs hne hii he ht hin
    refine walk_rest hr hpl (by
      unfold innW
      split
      · unfold kidsW
        refine Nat.le_trans (List.length_filter_le _ _) ?_
        simp
      · decide) htop (hs _ _ (s3 _ _ (hgl _ _ hh) (hhne to (by simp)).symm hh)) hii hne hin ((he _ (by simp)).trans e8) ht fun ρ' σ' h1 h2 h3 => ?_
    refine EX.nil (q ρ' σ' (fun y hy => ?_) (fun b o b1 b2 b3 h => h2 b o b2 (hs _ _ (s3 b o b1 b3 h))) h3 (h2 _ _ (hhne to (by simp)) (hs _ _ to3)) ?_)
    · rw [h1 y (by rintro rfl; revert hy; decide) (by rintro rfl; revert hy; decide)]; exact he y hy
    · have r5 := rd3.sub hs
      have hne' : ∀ b o, (∀ vs, o ≠ .list vs) → σ₅ b = some o → b ≠ ha := fun b o n h => by
        rintro rfl
        rw [hs _ _ (s3 _ _ (hgl _ _ hh) (hhne to (by simp)).symm hh)] at h; cases h; exact n _ rfl
      exact ⟨h2 _ _ (hne' _ _ (fun _ z => by cases z) r5.ix) r5.ix, h2 _ _ (hne' _ _ (fun _ z => by cases z) r5.id) r5.id, h2 _ _ (hne' _ _ (fun _ z => by cases z) r5.im) r5.im, h2 _ _ hdh r5.idd, h2 _ _ (hne' _ _ (fun _ z => by cases z) r5.ig) r5.ig⟩
  have hrho : ∀ (v1 v2 v3 v4 : V) (y : Str), y ∈ [Str.ofString "parents", "modes", "rows", "paths", "names", "reader", "told", "heap"] → (setv (setv (setv (setv ρ "top" v1) "k" v2) "answer" v3) "inner" v4) y = ρ y := by
    intro v1 v2 v3 v4 y hy
    unfold setv
    rw [if_neg (by rintro rfl; revert hy; decide), if_neg (by rintro rfl; revert hy; decide), if_neg (by rintro rfl; revert hy; decide), if_neg (by rintro rfl; revert hy; decide)]
  have hrho2 : ∀ (v1 v2 v3 v4 v5 : V) (y : Str), y ∈ [Str.ofString "parents", "modes", "rows", "paths", "names", "reader", "told", "heap"] → (setv (setv (setv (setv (setv ρ "top" v1) "k" v2) "answer" v3) "inner" v4) "inner" v5) y = ρ y := by
    intro v1 v2 v3 v4 v5 y hy
    unfold setv
    rw [if_neg (by rintro rfl; revert hy; decide)]
    exact hrho v1 v2 v3 v4 y hy
  walk_at "ev"
  have nogo : innW p md rw k a = [] → EX G A (envK G 46 L pm cd doc) ((ib (wb 46 3) 0).drop 6) (setv (setv (setv (setv ρ "top" (tv (keyW rw k))) "k" (.int (k : Nat))) "answer" (.int a)) "inner" (.ref i0)) σ₃ fun f ρ' σ' => match f with | .next => EX G A (envK G 46 L pm cd doc) [] ρ' σ' Q | f => Q f ρ' σ' := fun h =>
    rest i0 σ₃ _ (Sub.refl _) i0h (by rw [h]; exact i3) (hrho _ _ _ _) rfl rfl
  refine iteB (fun h0 => ?_) fun h0 => ?_
  rotate_left
  · refine ifFe rfl (EX.nil (nogo ?_))
    unfold innW; rw [if_neg]; rintro ⟨rfl, _⟩; cases h0
  have a0 : a = 0 := eq_of_beq h0
  walk_at "ev"
  refine EV.call 16 ?_
  walk_at "ev"
  refine GI.listN (s3 _ _ (hgl _ _ m1) (htne ma (by simp)) m1) (m3 k k0 k10) (le5 m2) ?_
  walk_at "ev"
  refine isdir X (hr.less (by decide)) ?_
  walk_at "ev"
  refine OP.isBT ?_
  walk_at "ev"
  refine iteB (fun h1 => ?_) fun h1 => ?_
  rotate_left
  · refine ifFe rfl (EX.nil (nogo ?_))
    unfold innW; rw [if_neg]; rintro ⟨_, z, _⟩; rw [z] at h1; cases h1
  have hdir : Builtin.bitAnd (md k) 61440 = 16384 := eq_of_beq h1
  walk_at "ev"
  refine EV.lc [] ?_ (hfr := trivial) (hsee := fun _ h => absurd h List.not_mem_nil)
  refine IT.val ?_
  walk_at "ev"
  have hr3 := s3 _ _ (hgl _ _ r1) (htne ra (by simp)) r1
  refine GI.listN hr3 (r3 k k0 k10) (le5 r2) ?_
  walk_at "ev"
  refine ⟨3, rfl, ?_⟩
  walk_at "ev"
  refine ⟨3, rfl, ?_⟩
  walk_at "ev"
  refine GI.strS (by decide) (by (first | lia | omega)) ?_
  refine ITV.str hr.hd l4 ?_
  refine ⟨fun i acc σ' => Sub σ₃ σ' ∧ acc = ((((sslice (rw k) (some 3) none (some 3)).cps.toList.take i).map fun c => (⟨#[c]⟩ : Str)).filter fun y => [Str.ofString "x", Str.ofString "s", Str.ofString "t"].any (· == y)).map .str, by rw [List.length_map, Array.length_toList]; exact l3, ⟨Sub.refl _, rfl⟩, ?_, ?_⟩
  · rintro L' i v acc σ₄ hv - ⟨hs, rfl⟩
    rw [List.getElem?_map] at hv
    cases hx : (sslice (rw k) (some 3) none (some 3)).cps.toList[i]? with
    | none => rw [hx] at hv; cases hv
    | some z =>
      rw [hx] at hv; cases hv
      walk_at "ev"
      refine IFS.one ?_
      walk_at "ev"
      refine ⟨by show 3 ≤ 1000; decide, ?_⟩
      refine OP.inT (ss := [Str.ofString "x", Str.ofString "s", Str.ofString "t"]) ?_
      walk_at "ev"
      have htk : ((((sslice (rw k) (some 3) none (some 3)).cps.toList.take (i + 1)).map fun c => (⟨#[c]⟩ : Str)).filter fun y => [Str.ofString "x", Str.ofString "s", Str.ofString "t"].any (· == y)) = ((((sslice (rw k) (some 3) none (some 3)).cps.toList.take i).map fun c => (⟨#[c]⟩ : Str)).filter fun y => [Str.ofString "x", Str.ofString "s", Str.ofString "t"].any (· == y)) ++ if [Str.ofString "x", Str.ofString "s", Str.ofString "t"].any (· == (⟨#[z]⟩ : Str)) = true then [(⟨#[z]⟩ : Str)] else [] := by
        rw [List.take_add_one, hx, List.map_append, List.filter_append]; congr 1; simp only [Option.toList, List.map_cons, List.map_nil, List.filter_cons, List.filter_nil]
      refine iteB (fun h => ?_) fun h => ?_
      · walk_at "ev"
        refine ⟨trivial, hs, ?_⟩
        rw [htk, if_pos h, List.map_append]; rfl
      · refine ⟨trivial, hs, ?_⟩
        rw [htk, if_neg (by rw [h]; decide), List.append_nil]
  · rintro acc σ₄ hal - ⟨hs, rfl⟩ b hb
    rw [List.length_map, List.take_length]
    refine TV.list (upd_same _ _ _) (by rw [List.length_map] at hal ⊢; rw [List.length_map, List.take_length] at hal; rw [Array.length_toList] at hal; exact Nat.le_trans hal l3) ?_
    have hgo : goB (rw k) = !(((((sslice (rw k) (some 3) none (some 3)).cps.toList.map fun c => (⟨#[c]⟩ : Str)).filter fun y => [Str.ofString "x", Str.ofString "s", Str.ofString "t"].any (· == y)).map V.str).isEmpty) := by
      unfold goB; rw [List.isEmpty_map]
    rw [← hgo]
    have hsb : ∀ o, Sub σ₃ (upd σ₄ b o) := fun o => hs.trans (Sub.new hb o)
    refine iteB (fun h2 => ?_) fun h2 => ?_
    rotate_left
    · refine EX.nil (EX.nil ?_)
      refine rest i0 _ _ (hsb _) i0h ?_ (hrho _ _ _ _) rfl rfl
      have : innW p md rw k a = [] := by unfold innW; rw [if_neg]; rintro ⟨_, _, z⟩; rw [z] at h2; cases h2
      rw [this]; exact hsb _ _ _ i3
    have hinn : innW p md rw k a = kidsW p k := by unfold innW; rw [if_pos ⟨a0, hdir, h2⟩]
    refine EX.cons ?_
    refine ES.lc ["k", "parents", "rows"] ?hmain (hfr := ?hfr0) (hsee := ?hsee0)
    case hfr0 => exact ⟨⟨rfl, rfl⟩, ⟨rfl, rfl⟩, ⟨rfl, rfl⟩, trivial⟩
    case hsee0 =>
      intro y hy L'
      rcases List.mem_cons.mp hy with rfl | hy
      · rfl
      · rcases List.mem_cons.mp hy with rfl | hy
        · rfl
        · rw [List.mem_singleton.mp hy]; rfl
    refine IT.val (EV.bt rfl ?_)
    walk_at "ev"
    refine FN.range2 (ITV.zs hr.hd (by decide) (by decide) (by decide) ?_)
    refine ⟨fun i acc σ' => Sub σ₃ σ' ∧ acc = (((List.range i).map (· + 1)).filter fun j => p j == k).map fun j => tv (keyW rw j), by decide, ⟨hsb _, rfl⟩, ?_, ?_⟩
    · rintro L' i v acc σ₅ hv - ⟨hs5, rfl⟩
      obtain ⟨rfl, hi⟩ := zseq_get hv
      have hi' : i < 10 := hi10 hi
      have ek := ek1 i
      rw [ek]
      have g1 : sees ["k", "parents", "rows"] (setv (setv (setv (setv ρ "top" (tv (keyW rw k))) "k" (.int (k : Nat))) "answer" (.int a)) "inner" (.ref i0)) "parents" = some (.ref pa) := e1
      have g2 : sees ["k", "parents", "rows"] (setv (setv (setv (setv ρ "top" (tv (keyW rw k))) "k" (.int (k : Nat))) "answer" (.int a)) "inner" (.ref i0)) "rows" = some (.ref ra) := e3
      have g3 : sees ["k", "parents", "rows"] (setv (setv (setv (setv ρ "top" (tv (keyW rw k))) "k" (.int (k : Nat))) "answer" (.int a)) "inner" (.ref i0)) "k" = some (.int (k : Nat)) := rfl
      walk_at "ev"
      refine IFS.one ?_
      walk_at "ev"
      refine GI.listN (hs5 _ _ (s3 _ _ (hgl _ _ p1) (htne pa (by simp)) p1)) (p3 (i + 1) (Nat.succ_pos i) hi') (le5 p2) ?_
      walk_at "ev"
      refine iteB (fun h => ?_) fun h => ?_
      · have h0 : p (i + 1) = k := by have := eq_of_beq h; (first | lia | omega)
        walk_at "ev"
        refine GI.listN (hs5 _ _ hr3) (r3 (i + 1) (Nat.succ_pos i) hi') (le5 r2) ?_
        walk_at "ev"
        refine ⟨1, rfl, ?_⟩
        walk_at "ev"
        refine GI.strS (by decide) (by have := (hlen (i + 1) (by (first | lia | omega)) (by (first | lia | omega))).2.1; (first | lia | omega)) ?_
        walk_at "ev"
        refine ⟨by show 2 ≤ 1000; decide, trivial, hs5, ?_⟩
        rw [kidsW_take p k i hi', if_pos h0, List.map_append]; rfl
      · have h0 : ¬ p (i + 1) = k := fun z => by rw [z] at h; simp at h
        refine ⟨trivial, hs5, ?_⟩
        rw [kidsW_take p k i hi', if_neg h0, List.append_nil]
    · rintro acc σ₅ hal2 - ⟨hs5, rfl⟩ b2 hb2
      refine AS.loc (EX.nil (EX.nil ?_))
      refine rest b2 _ _ (hs5.trans (Sub.new hb2 _)) ?_ ?_ (hrho2 _ _ _ _ _) rfl rfl
      · rintro rfl
        rw [hs5 _ _ (s3 _ _ (hgl _ _ hh) (hhne to (by simp)).symm hh)] at hb2; cases hb2
      · rw [hinn]; exact upd_same _ _ _
end
section
variable {G : Gl} {A : Around} {σ : Store} {Q : V → Store → Prop} {K : Frag} {C fI fN : Addr}
theorem LS.keep {a : Addr} {σ σ' : Store} {f : Nat → V} (x : LS σ a f) (h : ∀ o, σ a = some o → σ' a = some o) : LS σ' a f := by
  obtain ⟨vs, h1, h2, h3⟩ := x
  exact ⟨vs, h _ h1, h2, h3⟩
theorem LS.ne {a b : Addr} {σ : Store} {f : Nat → V} (x : LS σ a f) (h : σ b = none) : a ≠ b := by
  obtain ⟨vs, h1, h2, h3⟩ := x
  rintro rfl; rw [h] at h1; cases h1
theorem walk {p : Nat → Nat} {md : Nat → Int} {rw pt nn : Nat → Str} {pa ma ra ta na x d m dd g : Addr} {mod : Str} {dirs : List Str} {kv0 : List (Str × Int)} (c : GC G K C fI fN) (X : GX G) (hr : Room A 8)
    (hpa : LS σ pa fun k => .int (p k : Nat)) (hma : LS σ ma fun k => .int (md k)) (hra : LS σ ra fun k => .str (rw k)) (hta : LS σ ta fun k => .str (pt k)) (hna : LS σ na fun k => .str (nn k)) (hrd : RD C σ x d m dd g mod dirs kv0)
    (hlen : ∀ k, 0 < k → k ≤ 10 → (rw k).length ≤ 1000 ∧ (sslice (rw k) (some 1) none none).length ≤ 1000 ∧ (sslice (rw k) (some 3) none (some 3)).length ≤ 1000 ∧ (sslice (rw k) (some 3) none (some 3)).cps.all (· < 128) = true) (hm : mod.length ≤ 1000) (hd : ∀ y ∈ dirs, y.length ≤ 1000)
    (I : Nat → List Key → List (Nat × Int) → List (Str × Int) → Prop) (I0 : I 0 (pushes rw [] (kidsW p 0)) [] kv0)
    (Ib : ∀ t hp tl kv, I t hp tl kv → (∀ y ∈ hp, ∃ k, 0 < k ∧ k ≤ 10 ∧ y = keyW rw k) ∧ hp.length ≤ 100 ∧ kv.length ≤ 100 ∧ tl.length ≤ 100 ∧ ∀ k, 0 < k → k ≤ 10 → (nres mod dirs kv (some (pt k)) (nn k)).1 = 0 ∨ (nres mod dirs kv (some (pt k)) (nn k)).1 = 1)
    (Is : ∀ t k hp tl kv, 0 < k → k ≤ 10 → I t hp tl kv → hp[0]? = some (keyW rw k) → I (t + 1) (nextH rw hp (innW p md rw k (nres mod dirs kv (some (pt k)) (nn k)).1)) (tl ++ [(k, (nres mod dirs kv (some (pt k)) (nn k)).1)]) (nres mod dirs kv (some (pt k)) (nn k)).2)
    (Ie : ∀ t tl kv, I t [] tl kv → I (t + 1) [] tl kv) (If : ∀ hp tl kv, I 10 hp tl kv → hp = [])
    (q : ∀ b tl kv σ', I 10 [] tl kv → (∀ a o, a ≠ g → σ a = some o → σ' a = some o) → σ' b = some (.list (tl.map toV)) → RD C σ' x d m dd g mod dirs kv → Q (.ref b) σ') :
    FN G A (.ref (G.fn 46)) [.ref pa, .ref ma, .ref ra, .ref ta, .ref na, .ref x] σ Q := by
  refine FN.fn6 "parents" "modes" "rows" "paths" "names" "reader" hr ?_
  intro L pm cd doc A' hr'
  conv in bodyOf 46 => whnf
  walk_at "ev"
  refine ⟨by decide, fun to hto => ?_⟩
  walk_at "ev"
  refine ⟨by decide, fun ha hha => ?_⟩
  have hth : to ≠ ha := by rintro rfl; rw [upd_same] at hha; cases hha
  have hha' : σ ha = none := by rw [upd_ne _ _ hth.symm] at hha; exact hha
  have s0 : Sub σ (upd (upd σ to (.list [])) ha (.list [])) := (Sub.new hto _).put hha' _
  have to0 : (upd (upd σ to (.list [])) ha (.list [])) to = some (.list []) := by rw [upd_ne _ _ hth]; exact upd_same _ _ _
  have ha0 : (upd (upd σ to (.list [])) ha (.list [])) ha = some (.list []) := upd_same _ _ _
  generalize upd (upd σ to (.list [])) ha (.list []) = σ₀ at s0 to0 ha0
  refine AS.loc (EX.cons ?_)
  refine walk_start (p := p) (rw := rw) (hr'.less (by decide)) (hpa.keep (s0 _)) (hra.keep (s0 _)) (fun k h1 h2 => (hlen k h1 h2).2.1) ha0 rfl rfl rfl fun ρ₁ er => ?_
  have hgt : g ≠ to := by rintro rfl; rw [hrd.ig] at hto; cases hto
  have hgh : g ≠ ha := by rintro rfl; rw [hrd.ig] at hha'; cases hha'
  refine EX.cons (ES.for (IT.val (EV.bt rfl ?_)))
  walk_at "ev"
  refine FN.range1 (ITV.zs hr'.hd (by decide) (by decide) (by decide) ?_)
  have nel : ∀ a ∈ [pa, ma, ra, ta, na], a ≠ to ∧ a ≠ ha := by
    intro a h
    simp only [List.mem_cons, List.not_mem_nil, or_false] at h
    rcases h with rfl | rfl | rfl | rfl | rfl
    · exact ⟨hpa.ne hto, hpa.ne hha'⟩
    · exact ⟨hma.ne hto, hma.ne hha'⟩
    · exact ⟨hra.ne hto, hra.ne hha'⟩
    · exact ⟨hta.ne hto, hta.ne hha'⟩
    · exact ⟨hna.ne hto, hna.ne hha'⟩
  refine ⟨fun i ρ' σ' => (∀ y : Str, y ∈ [Str.ofString "parents", "modes", "rows", "paths", "names", "reader", "told", "heap"] → ρ' y = ρ₁ y) ∧ (∀ a o, a ≠ g → σ a = some o → σ' a = some o) ∧ ∃ hp tl kv, I i hp tl kv ∧ σ' ha = some (.list (hp.map tv)) ∧ σ' to = some (.list (tl.map toV)) ∧ RD C σ' x d m dd g mod dirs kv, ⟨fun _ _ => rfl, ?_, _, [], kv0, I0, upd_same _ _ _, ?_, ?_⟩, ?_, ?_⟩
  · intro a o n h; rw [upd_ne]; exact s0 _ _ h; rintro rfl; rw [hha'] at h; cases h
  · rw [upd_ne _ _ hth]; exact to0
  · refine ⟨?_, ?_, ?_, ?_, ?_⟩
    · rw [upd_ne]; exact s0 _ _ hrd.ix; rintro rfl; have := hrd.ix; rw [hha'] at this; cases this
    · rw [upd_ne]; exact s0 _ _ hrd.id; rintro rfl; have := hrd.id; rw [hha'] at this; cases this
    · rw [upd_ne]; exact s0 _ _ hrd.im; rintro rfl; have := hrd.im; rw [hha'] at this; cases this
    · rw [upd_ne]; exact s0 _ _ hrd.idd; rintro rfl; have := hrd.idd; rw [hha'] at this; cases this
    · rw [upd_ne]; exact s0 _ _ hrd.ig; rintro rfl; have := hrd.ig; rw [hha'] at this; cases this
  · rintro i v ρ₂ σ₂ hv - ⟨f1, f2, hp, tl, kv, hI, h1, h2, rd⟩
    obtain ⟨b1, b2, b3, b4, b5⟩ := Ib _ _ _ _ hI
    refine AS.loc ?_
    have hgl : ∀ a f, LS σ a f → a ≠ g := fun a f ⟨vs, h, _⟩ => by rintro rfl; rw [hrd.ig] at h; cases h
    have ff : ∀ y : Str, y ∈ [Str.ofString "parents", "modes", "rows", "paths", "names", "reader", "told", "heap"] → setv ρ₂ "turn" v y = ρ₁ y := fun y hy => by
      unfold setv; rw [if_neg (by rintro rfl; revert hy; decide)]; exact f1 y hy
    have g1 : setv ρ₂ "turn" v "parents" = some (.ref pa) := (ff _ (by simp)).trans ((er _ (by decide)).trans rfl)
    have g2 : setv ρ₂ "turn" v "modes" = some (.ref ma) := (ff _ (by simp)).trans ((er _ (by decide)).trans rfl)
    have g3 : setv ρ₂ "turn" v "rows" = some (.ref ra) := (ff _ (by simp)).trans ((er _ (by decide)).trans rfl)
    have g4 : setv ρ₂ "turn" v "paths" = some (.ref ta) := (ff _ (by simp)).trans ((er _ (by decide)).trans rfl)
    have g5 : setv ρ₂ "turn" v "names" = some (.ref na) := (ff _ (by simp)).trans ((er _ (by decide)).trans rfl)
    have g6 : setv ρ₂ "turn" v "reader" = some (.ref x) := (ff _ (by simp)).trans ((er _ (by decide)).trans rfl)
    have g7 : setv ρ₂ "turn" v "told" = some (.ref to) := (ff _ (by simp)).trans ((er _ (by decide)).trans rfl)
    have g8 : setv ρ₂ "turn" v "heap" = some (.ref ha) := (ff _ (by simp)).trans ((er _ (by decide)).trans rfl)
    cases hp with
    | nil =>
      walk_at "ev"
      refine TV.list h1 (by decide) ?_
      refine ifFe rfl ?_
      walk_at "ev"
      exact ⟨trivial, ff, f2, [], tl, kv, Ie _ _ _ hI, h1, h2, rd⟩
    | cons y hp =>
      obtain ⟨k, k0, k10, hk⟩ := b1 y (List.mem_cons_self ..)
      subst hk
      have htop : (keyW rw k :: hp)[0]? = some (keyW rw k) := rfl
      refine walk_turn (p := p) (md := md) (rw := rw) (pt := pt) (nn := nn) (k := k) c X (hr'.less (by decide)) (hpa.keep fun o h => f2 _ o (hgl _ _ hpa) h) (hma.keep fun o h => f2 _ o (hgl _ _ hma) h) (hra.keep fun o h => f2 _ o (hgl _ _ hra) h) (hta.keep fun o h => f2 _ o (hgl _ _ hta) h) (hna.keep fun o h => f2 _ o (hgl _ _ hna) h) rd hlen hm hd b3 b2 b4 k0 k10 htop b5 h1 h2 ?_ (fun a h => (nel a h).1) ?_ ?_ g1 g2 g3 g4 g5 g6 g7 g8 fun ρ' σ' r1 r2 r3 r4 r5 => ?_
      · intro a h
        rcases List.mem_append.mp (show a ∈ [pa, ma, ra, ta, na] ++ [to] from h) with h | h
        · exact (nel a h).2
        · rw [List.mem_singleton.mp h]; exact hth
      · rintro rfl; have := hrd.idd; rw [hto] at this; cases this
      · rintro rfl; have := hrd.idd; rw [hha'] at this; cases this
      · refine ⟨trivial, fun y hy => (r1 y hy).trans (ff y hy), fun a o n h => r2 a o n (by rintro rfl; rw [hha'] at h; cases h) (by rintro rfl; rw [hto] at h; cases h) (f2 a o n h), _, _, _, Is i k _ tl kv k0 k10 hI htop, r3, r4, r5⟩
  · rintro ρ₂ σ₂ - ⟨f1, f2, hp, tl, kv, hI, h1, h2, rd⟩
    have hI' : I 10 hp tl kv := hI
    have hpe := If _ _ _ hI'
    subst hpe
    have g7 : ρ₂ "told" = some (.ref to) := (f1 _ (by simp)).trans ((er _ (by decide)).trans rfl)
    have g8 : ρ₂ "heap" = some (.ref ha) := (f1 _ (by simp)).trans ((er _ (by decide)).trans rfl)
    walk_at "ev"
    refine TV.list h1 (by decide) ?_
    refine ifFe rfl ?_
    walk_at "ev"
    exact q _ _ _ _ hI' f2 h2 rd
end
section
variable {G : Gl} {A : Around} {σ : Store} {Q : V → Store → Prop} {K : Frag} {C fI fN : Addr}
noncomputable def av (k i : Nat) : Expr := match (bodyOf k)[i]? with | some (.Assign _ v _) => v | _ => .Constant .none 0 default
noncomputable def strL (f : Nat → Str) (n : Nat) : List V := (List.range n).map fun i => .str (f (i + 1))
theorem strL_succ (f : Nat → Str) (n : Nat) : strL f (n + 1) = strL f n ++ [.str (f (n + 1))] := by unfold strL; rw [List.range_succ, List.map_append]; rfl
theorem LS.of {a : Addr} {σ : Store} {v0 : V} {f : Nat → V} (h : σ a = some (.list (v0 :: (List.range 10).map fun i => f (i + 1)))) : LS σ a f := by
  refine ⟨_, h, by simp, fun k k0 k1 => ?_⟩
  obtain ⟨j, rfl⟩ : ∃ j, k = j + 1 := ⟨k - 1, by (first | lia | omega)⟩
  rw [List.getElem?_cons_succ, List.getElem?_map, List.getElem?_range (by (first | lia | omega))]; rfl
theorem ivs_drop {m0 : Int} {md : Nat → Int} : vpick (ivs (m0 :: (List.range 10).map fun k => md (k + 1))) (some 1) none none = (List.range 10).map fun k => V.int (md (k + 1)) := by
  have := vpick_from (vs := ivs (m0 :: (List.range 10).map fun k => md (k + 1))) (n := 1) (by simp [ivs])
  rw [show (some (1 : Int)) = some ((1 : Nat) : Int) from rfl, this]
  unfold ivs
  rw [List.map_cons, List.drop_succ_cons, List.drop_zero, List.map_map]; rfl
theorem ints_get {md : Nat → Int} {i : Nat} {v : V} (h : ((List.range 10).map fun k => V.int (md (k + 1)))[i]? = some v) : i < 10 ∧ v = .int (md (i + 1)) := by
  rw [List.getElem?_map] at h
  by_cases hi : i < 10
  · rw [List.getElem?_range hi] at h; cases h; exact ⟨hi, rfl⟩
  · rw [List.getElem?_eq_none (by simp; (first | lia | omega))] at h; cases h
/-- first and second list of rows -/
theorem rows1 (X : GX G) {m0 : Int} {md : Nat → Int} {ma : Addr} {L : Addr} {pm cd doc : Value} {ρ : Rho} {Q : V → Store → Prop} (hr : Room A 5) (e : ρ "modes" = some (.ref ma)) (hma : σ ma = some (.list (ivs (m0 :: (List.range 10).map fun k => md (k + 1)))))
    (q : ∀ a σ', Sub σ σ' → σ' a = some (.list (.str "" :: strL (fun k => fmode (md k)) 10)) → Q (.ref a) σ') : EV G A (envK G 51 L pm cd doc) (av 51 0) ρ σ Q := by
  conv in av 51 0 => whnf
  walk_at "ev"
  refine ⟨by show 1 ≤ 1000; decide, fun b hb => ?_⟩
  refine EV.lc [] ?_ (hfr := trivial) (hsee := fun _ h => absurd h List.not_mem_nil)
  refine IT.val ?_
  walk_at "ev"
  refine ⟨1, rfl, ?_⟩
  walk_at "ev"
  refine GI.listS (Sub.new hb _ _ _ hma) (by decide) (by simp [ivs]) fun e he => ?_
  rw [ivs_drop]
  refine ITV.list hr.hd (upd_same _ _ _) ?_
  refine ⟨fun i acc σ' => Sub (upd (upd σ b (.list [.str ""])) e (.list ((List.range 10).map fun k => V.int (md (k + 1))))) σ' ∧ acc = strL (fun k => fmode (md k)) i, by simp, ⟨Sub.refl _, rfl⟩, ?_, ?_⟩
  · rintro L' i v acc σ₁ hv hC ⟨hs, rfl⟩
    obtain ⟨hi, rfl⟩ := ints_get hv
    walk_at "ev"
    refine IFS.nil (ifT ?_)
    refine EV.call 30 ?_
    walk_at "ev"
    refine filemode X (hr.less (by decide)) fun σ₂ s2 => ?_
    exact ⟨s2 _ _ hC, hs.trans s2, (strL_succ _ _).symm⟩
  · rintro acc σ₁ - hC ⟨hs, rfl⟩ f hf
    have h1 : Sub σ (upd σ₁ f (.list (strL (fun k => fmode (md k)) 10))) := ((Sub.new hb _).trans (Sub.new he _)).trans (hs.trans (Sub.new hf _))
    have hb1 : (upd σ₁ f (.list (strL (fun k => fmode (md k)) 10))) b = some (.list [.str ""]) := Sub.new hf _ _ _ (hs _ _ (Sub.new he _ _ _ (upd_same _ _ _)))
    refine OP.addL hb1 (upd_same _ _ _) (by simp [strL]) fun r hr' => ?_
    exact q _ _ (h1.trans (Sub.new hr' _)) (upd_same _ _ _)
noncomputable def cr (k i : Nat) : Expr := match (bodyOf k)[i]? with | some (.If (.Compare _ _ [r] _) _ _ _) => r | _ => .Constant .none 0 default
noncomputable def st51 (i : Nat) : Stmt := (bodyOf 51).getD i (.Pass default)
structure RowOk (m : Int) : Prop where
  ex : ∃ c : Str, c.length = 1 ∧ vat kindL (m.fdiv 4096) = some (.str c) ∧ lrow m c = fmode m
theorem rows2 {m0 : Int} {md : Nat → Int} {ma : Addr} {L : Addr} {pm cd doc : Value} {ρ : Rho} {Q : V → Store → Prop} (hr : Room A 5) (hok : ∀ k, 0 < k → k ≤ 10 → RowOk (md k)) (e : ρ "modes" = some (.ref ma)) (hma : σ ma = some (.list (ivs (m0 :: (List.range 10).map fun k => md (k + 1)))))
    (q : ∀ a σ', Sub σ σ' → σ' a = some (.list (.str "" :: strL (fun k => fmode (md k)) 10)) → Q (.ref a) σ') : EV G A (envK G 51 L pm cd doc) (cr 51 1) ρ σ Q := by
  conv in cr 51 1 => whnf
  walk_at "ev"
  refine ⟨by show 1 ≤ 1000; decide, fun b hb => ?_⟩
  refine EV.lc [] ?_ (hfr := trivial) (hsee := fun _ h => absurd h List.not_mem_nil)
  refine IT.val ?_
  walk_at "ev"
  refine ⟨1, rfl, ?_⟩
  walk_at "ev"
  refine GI.listS (Sub.new hb _ _ _ hma) (by decide) (by simp [ivs]) fun e he => ?_
  rw [ivs_drop]
  refine ITV.list hr.hd (upd_same _ _ _) ?_
  refine ⟨fun i acc σ' => Sub (upd (upd σ b (.list [.str ""])) e (.list ((List.range 10).map fun k => V.int (md (k + 1))))) σ' ∧ acc = strL (fun k => fmode (md k)) i, by simp, ⟨Sub.refl _, rfl⟩, ?_, ?_⟩
  · rintro L' i v acc σ₁ hv hC ⟨hs, rfl⟩
    obtain ⟨hi, rfl⟩ := ints_get hv
    obtain ⟨c, c1, c2, c3⟩ := (hok (i + 1) (by (first | lia | omega)) (by (first | lia | omega))).ex
    walk_at "ev"
    refine IFS.nil (ifT ?_)
    refine EV.call 42 ?_
    walk_at "ev"
    refine law_row (hr.less (by decide)) c1 c2 fun σ₂ s2 => ?_
    rw [c3]
    exact ⟨s2 _ _ hC, hs.trans s2, (strL_succ _ _).symm⟩
  · rintro acc σ₁ - hC ⟨hs, rfl⟩ f hf
    have h1 : Sub σ (upd σ₁ f (.list (strL (fun k => fmode (md k)) 10))) := ((Sub.new hb _).trans (Sub.new he _)).trans (hs.trans (Sub.new hf _))
    have hb1 : (upd σ₁ f (.list (strL (fun k => fmode (md k)) 10))) b = some (.list [.str ""]) := Sub.new hf _ _ _ (hs _ _ (Sub.new he _ _ _ (upd_same _ _ _)))
    refine OP.addL hb1 (upd_same _ _ _) (by simp [strL]) fun r hr' => ?_
    exact q _ _ (h1.trans (Sub.new hr' _)) (upd_same _ _ _)
theorem strL_flat (f : Nat → Str) : (V.str "" :: strL f 10).all flat = true := by
  rw [List.all_eq_true]
  intro v hv
  rcases List.mem_cons.mp hv with rfl | hv
  · rfl
  · unfold strL at hv
    obtain ⟨i, _, rfl⟩ := List.mem_map.mp hv
    rfl
/-- paths -/
noncomputable def pathsL (p : Nat → Nat) (n : Nat) : List V := (List.range n).map fun j => .str (pathS (chain p j))
theorem paths_ {p : Nat → Nat} (hp : ∀ k, 0 < k → k ≤ 10 → p k < k) {c : Addr} {L : Addr} {pm cd doc : Value} {ρ : Rho} {Q : F → Rho → Store → Prop} (hr : Room A 5) (hcb : ∀ k, k ≤ 10 → ∀ j ∈ chain p k, 0 < j ∧ j ≤ 10) (e : ρ "chains" = some (.ref c)) (hc : LL σ c 11 (chain p))
    (q : ∀ a σ', Sub σ σ' → σ' a = some (.list (pathsL p 11)) → Q .next (setv ρ "paths" (.ref a)) σ') : ES G A (envK G 51 L pm cd doc) (st51 3) ρ σ Q := by
  conv in st51 3 => whnf
  refine ES.asg ?_
  refine EV.lc [] ?_ (hfr := trivial) (hsee := fun _ h => absurd h List.not_mem_nil)
  refine IT.val ?_
  walk_at "ev"
  obtain ⟨as, h1, h2, h3⟩ := id hc
  refine ITV.list hr.hd h1 ?_
  refine ⟨fun i acc σ' => Sub σ σ' ∧ acc = pathsL p i, by rw [List.length_map, h2]; decide, ⟨Sub.refl _, rfl⟩, ?_, ?_⟩
  · rintro L' i v acc σ₁ hv hC ⟨hs, rfl⟩
    rw [List.getElem?_map] at hv
    cases hx : as[i]? with
    | none => rw [hx] at hv; cases hv
    | some a =>
      rw [hx] at hv; cases hv
      have hi : i < 11 := by rw [← h2]; exact (List.getElem?_eq_some_iff.mp hx).1
      obtain ⟨_, h4⟩ := h3 i a hx
      walk_at "ev"
      refine IFS.nil (ifT ?_)
      refine EV.call 45 ?_
      walk_at "ev"
      refine law_path (hr.less (by decide)) (hcb i (by (first | lia | omega))) (by have := chain_len hp i (by (first | lia | omega)); (first | lia | omega)) (hs _ _ h4) fun σ₂ s2 => ?_
      refine ⟨s2 _ _ hC, hs.trans s2, ?_⟩
      unfold pathsL; rw [List.range_succ, List.map_append]; rfl
  · rintro acc σ₁ - hC ⟨hs, rfl⟩ b hb
    rw [List.length_map, h2]
    walk_at "ev"
    exact q b _ (hs.trans (Sub.new hb _)) (upd_same _ _ _)
noncomputable def nmR (rw : Nat → Str) (k : Nat) : Str := nm k ++ Str.ofString "." ++ rw k
theorem names_list {rw : Nat → Str} {ra : Addr} {L : Addr} {pm cd doc : Value} {ρ : Rho} {Q : V → Store → Prop} (hr : Room A 5) (hl : ∀ k, 0 < k → k ≤ 10 → (rw k).length ≤ 1000) (e : ρ "rows" = some (.ref ra)) (hra : LS σ ra fun k => .str (rw k))
    (q : ∀ a σ', Sub σ σ' → σ' a = some (.list (.str "" :: strL (nmR rw) 10)) → Q (.ref a) σ') : EV G A (envK G 51 L pm cd doc) (av 51 4) ρ σ Q := by
  conv in av 51 4 => whnf
  walk_at "ev"
  refine ⟨by show 1 ≤ 1000; decide, fun b hb => ?_⟩
  refine EV.lc ["rows"] ?hm0 (hfr := ?hf0) (hsee := ?hs0)
  case hf0 => exact ⟨⟨rfl, rfl⟩, trivial⟩
  case hs0 => intro x hx L; rw [List.mem_singleton.mp hx]; rfl
  refine IT.val (EV.bt rfl ?_)
  walk_at "ev"
  refine FN.range2 (ITV.zs hr.hd (by decide) (by decide) (by decide) ?_)
  refine ⟨fun i acc σ' => Sub (upd σ b (.list [.str ""])) σ' ∧ acc = strL (nmR rw) i, by decide, ⟨Sub.refl _, rfl⟩, ?_, ?_⟩
  · rintro L' i v acc σ₁ hv - ⟨hs, rfl⟩
    obtain ⟨rfl, hi⟩ := zseq_get hv
    have hi' : i < 10 := hi10 hi
    have ek := ek1 i
    rw [ek]
    obtain ⟨vr, r1, r2, r3⟩ := hra
    have g1 : sees ["rows"] ρ "rows" = some (.ref ra) := e
    walk_at "ev"
    refine IFS.nil (ifT ?_)
    walk_at "ev"
    refine EV.call 43 ?_
    walk_at "ev"
    refine called (hr.less (by decide)) hi' fun σ₂ s2 => ?_
    walk_at "ev"
    have n2 := nm_len (i + 1)
    refine OP.cat (by have : (Str.ofString ".").length = 1 := rfl; (first | lia | omega)) ?_
    walk_at "ev"
    refine GI.listN (s2 _ _ (hs _ _ (Sub.new hb _ _ _ r1))) (r3 (i + 1) (Nat.succ_pos i) hi') (le5 r2) ?_
    have hl' := hl (i + 1) (by (first | lia | omega)) (by (first | lia | omega))
    refine OP.cat (by rw [str_len_append]; have : (Str.ofString ".").length = 1 := rfl; (first | lia | omega)) ?_
    exact ⟨trivial, hs.trans s2, (strL_succ _ _).symm⟩
  · rintro acc σ₁ - - ⟨hs, rfl⟩ f hf
    have h1 : Sub σ (upd σ₁ f (.list (strL (nmR rw) 10))) := (Sub.new hb _).trans (hs.trans (Sub.new hf _))
    have hb1 : (upd σ₁ f (.list (strL (nmR rw) 10))) b = some (.list [.str ""]) := Sub.new hf _ _ _ (hs _ _ (upd_same _ _ _))
    refine OP.addL hb1 (upd_same _ _ _) (by show 1 + (strL (nmR rw) (zseq 1 11).length).length ≤ 1000; unfold strL; rw [List.length_map, List.length_range]; decide) fun r hr' => ?_
    exact q _ _ (h1.trans (Sub.new hr' _)) (upd_same _ _ _)
end
section
variable {G : Gl} {A : Around} {σ : Store} {Q : V → Store → Prop} {K : Frag} {C fI fN : Addr}
noncomputable def keyM (md : Nat → Int) (k : Nat) : Key := keyW (fun k => fmode (md k)) k
theorem keys_ {m0 : Int} {md : Nat → Int} {ma : Addr} {L : Addr} {pm cd doc : Value} {ρ : Rho} {Q : F → Rho → Store → Prop} (hr : Room A 5) (h0 : md 0 = 16384) (hok : ∀ k, k ≤ 10 → RowOk (md k)) (hl : ∀ k, k ≤ 10 → (sslice (fmode (md k)) (some 1) none none).length ≤ 1000) (e : ρ "modes" = some (.ref ma)) (hma : σ ma = some (.list (ivs (m0 :: (List.range 10).map fun k => md (k + 1)))))
    (q : ∀ a σ', Sub σ σ' → σ' a = some (.list (keysL (keyM md))) → Q .next (setv ρ "keys" (.ref a)) σ') : ES G A (envK G 51 L pm cd doc) (st51 9) ρ σ Q := by
  conv in st51 9 => whnf
  refine ES.lc [] ?_ (hfr := trivial) (hsee := fun _ h => absurd h List.not_mem_nil)
  refine IT.enum ?_
  walk_at "ev"
  refine ⟨by show 1 ≤ 1000; decide, fun b hb => ?_⟩
  walk_at "ev"
  refine ⟨1, rfl, ?_⟩
  walk_at "ev"
  refine GI.listS (Sub.new hb _ _ _ hma) (by decide) (by simp [ivs]) fun f hf => ?_
  rw [ivs_drop]
  refine OP.addL (Sub.new hf _ _ _ (upd_same _ _ _)) (upd_same _ _ _) (by simp) fun c hc => ?_
  walk_at "ev"
  refine ⟨_, rfl, ?_⟩
  refine ITE.list hr.hd (upd_same _ _ _) ?_
  have s0 : ∀ o, Sub σ (upd (upd (upd σ b (.list [.int 16384])) f (.list ((List.range 10).map fun k => V.int (md (k + 1))))) c o) := fun o => ((Sub.new hb _).trans (Sub.new hf _)).trans (Sub.new hc _)
  refine ⟨fun i acc σ' => Sub σ σ' ∧ acc = (List.range i).map fun k => tv (keyM md k), by unfold enumV; rw [List.length_mapIdx]; simp, ⟨s0 _, rfl⟩, ?_, ?_⟩
  · rintro L' i v acc σ₁ hv hC ⟨hs, rfl⟩
    obtain ⟨w, hw, rfl⟩ := enumV_get hv
    obtain ⟨hi, rfl⟩ : i < 11 ∧ w = .int (md i) := by
      cases i with
      | zero => cases hw; exact ⟨by decide, by rw [h0]⟩
      | succ i =>
        have hw' : ((List.range 10).map fun k => V.int (md (k + 1)))[i]? = some w := hw
        obtain ⟨h1, h2⟩ := ints_get hw'
        exact ⟨by (first | lia | omega), h2⟩
    obtain ⟨ch, c1, c2, c3⟩ := (hok i (by (first | lia | omega))).ex
    refine AS.tup hr.hd ?_
    refine AL.cons ?_
    walk_at "ev"
    refine AL.cons ?_
    walk_at "ev"
    refine AL.nil ?_
    refine IFS.nil (ifT ?_)
    walk_at "ev"
    refine EV.call 42 ?_
    walk_at "ev"
    refine law_row (hr.less (by decide)) c1 c2 fun σ₂ s2 => ?_
    rw [c3]
    walk_at "ev"
    refine ⟨1, rfl, ?_⟩
    walk_at "ev"
    refine GI.strS (by decide) (by have := hl i (by (first | lia | omega)); (first | lia | omega)) ?_
    walk_at "ev"
    refine ⟨by show 2 ≤ 1000; decide, s2 _ _ hC, hs.trans s2, ?_⟩
    rw [List.range_succ, List.map_append]; simp only [List.map_cons, List.map_nil, keyM, keyW, tv]
  · rintro acc σ₁ - hC ⟨hs, rfl⟩ b2 hb2
    have hlen : (enumV ([V.int 16384] ++ (List.range 10).map fun k => V.int (md (k + 1)))).length = 11 := by unfold enumV; rw [List.length_mapIdx]; simp
    rw [hlen]
    walk_at "ev"
    exact q _ _ (hs.trans (Sub.new hb2 _)) (upd_same _ _ _)
/-- the reader asked in turn -/
noncomputable def ag (mod : Str) (dirs : List Str) (f : Nat → Option Str) (nn : Nat → Str) (kv : List (Str × Int)) : Nat → List (Str × Int) × List Int
  | 0 => (kv, [])
  | i + 1 => ((nres mod dirs (ag mod dirs f nn kv i).1 (f (i + 1)) (nn (i + 1))).2, (ag mod dirs f nn kv i).2 ++ [(nres mod dirs (ag mod dirs f nn kv i).1 (f (i + 1)) (nn (i + 1))).1])
theorem nres_len (mod : Str) (dirs : List Str) (kv : List (Str × Int)) (f : Option Str) (n : Str) : (nres mod dirs kv f n).2.length ≤ kv.length + 1 := by
  unfold nres
  split
  · exact Nat.le_succ _
  · rw [List.length_append]; exact Nat.le_refl _
theorem ag_len (mod : Str) (dirs : List Str) (f : Nat → Option Str) (nn : Nat → Str) (kv : List (Str × Int)) : ∀ i, (ag mod dirs f nn kv i).1.length ≤ kv.length + i := by
  intro i
  induction i with
  | zero => exact Nat.le_refl _
  | succ i ih => have := nres_len mod dirs (ag mod dirs f nn kv i).1 (f (i + 1)) (nn (i + 1)); show (nres _ _ _ _ _).2.length ≤ _; (first | lia | omega)
noncomputable def strI (l : List Int) : List V := l.map fun a => .str (toString a)
theorem strI_flat (l : List Int) : (strI l).all flat = true := by
  rw [List.all_eq_true]
  intro v hv
  unfold strI at hv
  obtain ⟨i, _, rfl⟩ := List.mem_map.mp hv
  rfl
theorem RD.new {σ : Store} {b x d m dd g : Addr} {mod : Str} {dirs : List Str} {kv : List (Str × Int)} (r : RD C σ x d m dd g mod dirs kv) (hb : σ b = none) (o : O) : RD C (upd σ b o) x d m dd g mod dirs kv := r.sub (Sub.new hb o)
theorem again_ {nn : Nat → Str} {na x d m dd g : Addr} {mod : Str} {dirs : List Str} {kv : List (Str × Int)} (c : GC G K C fI fN) (X : GX G) {L : Addr} {pm cd doc : Value} {ρ : Rho} {Q : F → Rho → Store → Prop} (hr : Room A 5) (e1 : ρ "names" = some (.ref na)) (e2 : ρ "reader" = some (.ref x)) (hna : LS σ na fun k => .str (nn k)) (hrd : RD C σ x d m dd g mod dirs kv)
    (hkv : kv.length ≤ 200) (hm : mod.length ≤ 1000) (hd : ∀ y ∈ dirs, y.length ≤ 1000) (h01 : ∀ i, i < 10 → (nres mod dirs (ag mod dirs (fun _ => none) nn kv i).1 none (nn (i + 1))).1 = 0 ∨ (nres mod dirs (ag mod dirs (fun _ => none) nn kv i).1 none (nn (i + 1))).1 = 1)
    (q : ∀ a σ', (∀ b o, b ≠ g → σ b = some o → σ' b = some o) → σ' a = some (.list (strI (ag mod dirs (fun _ => none) nn kv 10).2)) → RD C σ' x d m dd g mod dirs (ag mod dirs (fun _ => none) nn kv 10).1 → Q .next (setv ρ "again" (.ref a)) σ') : ES G A (envK G 51 L pm cd doc) (st51 11) ρ σ Q := by
  conv in st51 11 => whnf
  refine ES.lc ["names", "reader"] ?hm0 (hfr := ?hf0) (hsee := ?hs0)
  case hf0 => exact ⟨⟨rfl, rfl⟩, ⟨rfl, rfl⟩, trivial⟩
  case hs0 =>
    intro y hy L'
    rcases List.mem_cons.mp hy with rfl | hy
    · rfl
    · rw [List.mem_singleton.mp hy]; rfl
  refine IT.val (EV.bt rfl ?_)
  walk_at "ev"
  refine FN.range2 (ITV.zs hr.hd (by decide) (by decide) (by decide) ?_)
  refine ⟨fun i acc σ' => (∀ b o, b ≠ g → σ b = some o → σ' b = some o) ∧ RD C σ' x d m dd g mod dirs (ag mod dirs (fun _ => none) nn kv i).1 ∧ acc = strI (ag mod dirs (fun _ => none) nn kv i).2, by decide, ⟨fun _ _ _ h => h, hrd, rfl⟩, ?_, ?_⟩
  · rintro L' i v acc σ₁ hv - ⟨hs, rd, rfl⟩
    obtain ⟨rfl, hi⟩ := zseq_get hv
    have hi' : i < 10 := hi10 hi
    have ek := ek1 i
    rw [ek]
    obtain ⟨vr, r1, r2, r3⟩ := hna
    have hng : na ≠ g := by rintro rfl; rw [hrd.ig] at r1; cases r1
    have g1 : sees ["names", "reader"] ρ "names" = some (.ref na) := e1
    have g2 : sees ["names", "reader"] ρ "reader" = some (.ref x) := e2
    walk_at "ev"
    refine IFS.nil (ifT ?_)
    refine EV.bt rfl ?_
    walk_at "ev"
    refine EV.methR c ?_
    refine EV.cell g2 ⟨x, d, _, rfl, rd.ix, rd.id, rfl, ?_⟩
    walk_at "ev"
    refine GI.listN (hs _ _ hng r1) (r3 (i + 1) (Nat.succ_pos i) hi') (le5 r2) ?_
    walk_at "ev"
    have hl := ag_len mod dirs (fun _ => none) nn kv i
    refine names_ c X (fn := none) (hr.less (by decide)) rd (by (first | lia | omega)) hm hd fun σ₂ h2 rd2 => ?_
    walk_at "ev"
    refine FN.strI (by rcases h01 i hi' with z | z <;> rw [z] <;> decide) ?_
    refine ⟨trivial, fun b o n h => ?_, rd2, ?_⟩
    · rcases h2 with rfl | ⟨kv', rfl⟩
      · exact hs b o n h
      · rw [upd_ne _ _ n]; exact hs b o n h
    · show _ = strI ((ag mod dirs (fun _ => none) nn kv i).2 ++ _); unfold strI; rw [List.map_append]; rfl
  · rintro acc σ₁ - - ⟨hs, rd, rfl⟩ b hb
    walk_at "ev"
    exact q _ _ (fun b o n h => Sub.new hb _ _ _ (hs b o n h)) (upd_same _ _ _) (rd.new hb _)
theorem once_ {nn pt : Nat → Str} {na ta x d m dd g : Addr} {mod : Str} {dirs : List Str} {kv : List (Str × Int)} (c : GC G K C fI fN) (X : GX G) {L : Addr} {pm cd doc : Value} {ρ : Rho} {Q : F → Rho → Store → Prop} (hr : Room A 5) (e1 : ρ "names" = some (.ref na)) (e2 : ρ "reader" = some (.ref x)) (e3 : ρ "paths" = some (.ref ta)) (hna : LS σ na fun k => .str (nn k)) (hta : LS σ ta fun k => .str (pt k)) (hrd : RD C σ x d m dd g mod dirs kv)
    (hkv : kv.length ≤ 200) (hm : mod.length ≤ 1000) (hd : ∀ y ∈ dirs, y.length ≤ 1000) (h01 : ∀ i, i < 10 → (nres mod dirs (ag mod dirs (fun k => some (pt k)) nn kv i).1 (some (pt (i + 1))) (nn (i + 1))).1 = 0 ∨ (nres mod dirs (ag mod dirs (fun k => some (pt k)) nn kv i).1 (some (pt (i + 1))) (nn (i + 1))).1 = 1)
    (q : ∀ a σ', (∀ b o, b ≠ g → σ b = some o → σ' b = some o) → σ' a = some (.list (strI (ag mod dirs (fun k => some (pt k)) nn kv 10).2)) → RD C σ' x d m dd g mod dirs (ag mod dirs (fun k => some (pt k)) nn kv 10).1 → Q .next (setv ρ "once" (.ref a)) σ') : ES G A (envK G 51 L pm cd doc) (st51 12) ρ σ Q := by
  conv in st51 12 => whnf
  refine ES.lc ["names", "paths", "reader"] ?hm0 (hfr := ?hf0) (hsee := ?hs0)
  case hf0 => exact ⟨⟨rfl, rfl⟩, ⟨rfl, rfl⟩, ⟨rfl, rfl⟩, trivial⟩
  case hs0 =>
    intro y hy L'
    rcases List.mem_cons.mp hy with rfl | hy
    · rfl
    · rcases List.mem_cons.mp hy with rfl | hy
      · rfl
      · rw [List.mem_singleton.mp hy]; rfl
  refine IT.val (EV.bt rfl ?_)
  walk_at "ev"
  refine FN.range2 (ITV.zs hr.hd (by decide) (by decide) (by decide) ?_)
  refine ⟨fun i acc σ' => (∀ b o, b ≠ g → σ b = some o → σ' b = some o) ∧ RD C σ' x d m dd g mod dirs (ag mod dirs (fun k => some (pt k)) nn kv i).1 ∧ acc = strI (ag mod dirs (fun k => some (pt k)) nn kv i).2, by decide, ⟨fun _ _ _ h => h, hrd, rfl⟩, ?_, ?_⟩
  · rintro L' i v acc σ₁ hv - ⟨hs, rd, rfl⟩
    obtain ⟨rfl, hi⟩ := zseq_get hv
    have hi' : i < 10 := hi10 hi
    have ek := ek1 i
    rw [ek]
    obtain ⟨vr, r1, r2, r3⟩ := hna
    obtain ⟨vt, t1, t2, t3⟩ := hta
    have hng : na ≠ g := by rintro rfl; rw [hrd.ig] at r1; cases r1
    have htg : ta ≠ g := by rintro rfl; rw [hrd.ig] at t1; cases t1
    have g1 : sees ["names", "paths", "reader"] ρ "names" = some (.ref na) := e1
    have g2 : sees ["names", "paths", "reader"] ρ "reader" = some (.ref x) := e2
    have g3 : sees ["names", "paths", "reader"] ρ "paths" = some (.ref ta) := e3
    walk_at "ev"
    refine IFS.nil (ifT ?_)
    refine EV.bt rfl ?_
    walk_at "ev"
    refine EV.methR c ?_
    refine EV.cell g2 ⟨x, d, _, rfl, rd.ix, rd.id, rfl, ?_⟩
    walk_at "ev"
    refine GI.listN (hs _ _ htg t1) (t3 (i + 1) (Nat.succ_pos i) hi') (le5 t2) ?_
    walk_at "ev"
    refine GI.listN (hs _ _ hng r1) (r3 (i + 1) (Nat.succ_pos i) hi') (le5 r2) ?_
    walk_at "ev"
    have hl := ag_len mod dirs (fun k => some (pt k)) nn kv i
    refine names_ c X (fn := some (pt (i + 1))) (hr.less (by decide)) rd (by (first | lia | omega)) hm hd fun σ₂ h2 rd2 => ?_
    walk_at "ev"
    refine FN.strI (by rcases h01 i hi' with z | z <;> rw [z] <;> decide) ?_
    refine ⟨trivial, fun b o n h => ?_, rd2, ?_⟩
    · rcases h2 with rfl | ⟨kv', rfl⟩
      · exact hs b o n h
      · rw [upd_ne _ _ n]; exact hs b o n h
    · show _ = strI ((ag mod dirs (fun k => some (pt k)) nn kv i).2 ++ _); unfold strI; rw [List.map_append]; rfl
  · rintro acc σ₁ - - ⟨hs, rd, rfl⟩ b hb
    walk_at "ev"
    exact q _ _ (fun b o n h => Sub.new hb _ _ _ (hs b o n h)) (upd_same _ _ _) (rd.new hb _)
noncomputable def gi (kvs : List (Int × V)) (k : Nat) : Int := match vat kvs (k : Int) with | some (.int a) => a | _ => 1
noncomputable def wantL (kvs : List (Int × V)) (n : Nat) : List Int := (List.range n).map fun i => gi kvs (i + 1)
theorem want_ {kvs : List (Int × V)} {aa : Addr} {ep : Nat} {L : Addr} {pm cd doc : Value} {ρ : Rho} {Q : F → Rho → Store → Prop} (hr : Room A 5) (e1 : ρ "asked" = some (.ref aa)) (haa : σ aa = some (.dicI kvs ep)) (hint : ∀ e ∈ kvs, ∃ a, e.2 = .int a ∧ (a = 0 ∨ a = 1))
    (q : ∀ a σ', Sub σ σ' → σ' a = some (.list (strI (wantL kvs 10))) → Q .next (setv ρ "wanted" (.ref a)) σ') : ES G A (envK G 51 L pm cd doc) (st51 13) ρ σ Q := by
  conv in st51 13 => whnf
  refine ES.lc ["asked"] ?hm0 (hfr := ?hf0) (hsee := ?hs0)
  case hf0 => exact ⟨⟨rfl, rfl⟩, trivial⟩
  case hs0 => intro y hy L'; rw [List.mem_singleton.mp hy]; rfl
  refine IT.val (EV.bt rfl ?_)
  walk_at "ev"
  refine FN.range2 (ITV.zs hr.hd (by decide) (by decide) (by decide) ?_)
  refine ⟨fun i acc σ' => Sub σ σ' ∧ acc = strI (wantL kvs i), by decide, ⟨Sub.refl _, rfl⟩, ?_, ?_⟩
  · rintro L' i v acc σ₁ hv - ⟨hs, rfl⟩
    obtain ⟨rfl, hi⟩ := zseq_get hv
    have ek := ek1 i
    rw [ek]
    have g1 : sees ["asked"] ρ "asked" = some (.ref aa) := e1
    have hg : (vat kvs ((i + 1 : Nat) : Int)).getD (.int 1) = .int (gi kvs (i + 1)) ∧ (gi kvs (i + 1) = 0 ∨ gi kvs (i + 1) = 1) := by
      unfold gi
      cases hv : vat kvs ((i + 1 : Nat) : Int) with
      | none => exact ⟨rfl, .inr rfl⟩
      | some v =>
        obtain ⟨a, e, h01⟩ := hint _ (vat_mem hv)
        have e' : v = .int a := e
        subst e'
        exact ⟨rfl, h01⟩
    walk_at "ev"
    refine IFS.nil (ifT ?_)
    refine EV.bt rfl ?_
    walk_at "ev"
    refine EV.meth "dict.get" ?_
    walk_at "ev"
    refine ⟨GM.dget (hs _ _ haa), ?_⟩
    walk_at "ev"
    refine FN.dget (hs _ _ haa) ?_
    rw [hg.1]
    walk_at "ev"
    refine FN.strI (by rcases hg.2 with z | z <;> rw [z] <;> decide) ?_
    refine ⟨trivial, hs, ?_⟩
    unfold strI wantL; rw [List.range_succ, List.map_append, List.map_append]; rfl
  · rintro acc σ₁ - - ⟨hs, rfl⟩ b hb
    walk_at "ev"
    exact q _ _ (hs.trans (Sub.new hb _)) (upd_same _ _ _)
end
theorem str_ext {a b : Str} (h : a.cps.toList = b.cps.toList) : a = b := by
  obtain ⟨⟨x⟩⟩ := a; obtain ⟨⟨y⟩⟩ := b; cases h; rfl
theorem klt_iff (a b : Key) : klt a b = true ↔ a.1.cps.toList < b.1.cps.toList ∨ (a.1 = b.1 ∧ a.2 < b.2) := by
  unfold klt
  by_cases h : a.1 = b.1
  · rw [if_pos (by rw [h]; exact beq_self_eq_true _)]
    have hn : ¬ a.1.cps.toList < b.1.cps.toList := by rw [h]; exact List.lt_irrefl _
    by_cases h2 : a.2 = b.2
    · rw [if_pos (by rw [h2]; exact beq_self_eq_true _)]
      constructor
      · intro z; cases z
      · rintro (z | ⟨_, z⟩)
        · exact absurd z hn
        · (first | lia | omega)
    · rw [if_neg (by simpa using h2), decide_eq_true_iff]
      exact ⟨fun z => .inr ⟨h, z⟩, fun z => z.elim (fun z => absurd z hn) (·.2)⟩
  · rw [if_neg (by simpa using h), decide_eq_true_iff]
    exact ⟨.inl, fun z => z.elim id fun z => absurd z.1 h⟩
theorem klt_irrefl (a : Key) : klt a a = false := by
  rw [← Bool.not_eq_true, klt_iff]
  rintro (h | ⟨_, h⟩)
  · exact List.lt_irrefl _ h
  · (first | lia | omega)
theorem klt_trans {a b c : Key} (h : klt a b = true) (k : klt b c = true) : klt a c = true := by
  rw [klt_iff] at *
  rcases h with h | ⟨h1, h2⟩
  · rcases k with k | ⟨k1, k2⟩
    · exact .inl (List.lt_trans h k)
    · exact .inl (k1 ▸ h)
  · rcases k with k | ⟨k1, k2⟩
    · exact .inl (h1 ▸ k)
    · exact .inr ⟨h1.trans k1, by (first | lia | omega)⟩
theorem klt_tot {a b : Key} (h : klt a b = false) (k : klt b a = false) : a = b := by
  rw [← Bool.not_eq_true, klt_iff] at *
  have h1 : a.1 = b.1 := str_ext (List.le_antisymm (List.not_lt.mp fun z => k (.inl z)) (List.not_lt.mp fun z => h (.inl z)))
  have h2 : ¬ a.2 < b.2 := fun z => h (.inr ⟨h1, z⟩)
  have h3 : ¬ b.2 < a.2 := fun z => k (.inr ⟨h1.symm, z⟩)
  exact Prod.ext h1 (by (first | lia | omega))
theorem klt_asym {a b : Key} (h : klt a b = true) : klt b a = false := by
  cases k : klt b a with
  | false => rfl
  | true => have := klt_trans h k; rw [klt_irrefl] at this; cases this
/-- `a` is at least `b` -/
noncomputable def kge (a b : Key) : Prop := klt a b = false
theorem kge_trans {a b c : Key} (h : kge a b) (k : kge b c) : kge a c := by
  unfold kge at *
  cases z : klt a c with
  | false => rfl
  | true =>
    cases y : klt b a with
    | true => have := klt_trans y z; rw [k] at this; cases this
    | false => rw [klt_tot h y, k] at z; cases z
theorem kge_refl (a : Key) : kge a a := klt_irrefl a

noncomputable def HO (ks : List Key) : Prop := ∀ i a b, 0 < i → ks[i]? = some a → ks[(i - 1) / 2]? = some b → kge a b
structure Hole (ks : List Key) (p : Nat) : Prop where
  far : ∀ i a b, 0 < i → i ≠ p → (i - 1) / 2 ≠ p → ks[i]? = some a → ks[(i - 1) / 2]? = some b → kge a b
  near : ∀ c a b, 0 < p → 0 < c → (c - 1) / 2 = p → ks[c]? = some a → ks[(p - 1) / 2]? = some b → kge a b
theorem get_set {ks : List Key} {i j : Nat} {x a : Key} (h : (ks.set i x)[j]? = some a) : (j = i ∧ a = x) ∨ (j ≠ i ∧ ks[j]? = some a) := by
  rw [List.getElem?_set] at h
  by_cases e : i = j
  · rw [if_pos e] at h
    split at h
    · cases h; exact .inl ⟨e.symm, rfl⟩
    · cases h
  · rw [if_neg e] at h; exact .inr ⟨fun z => e z.symm, h⟩
theorem sd_done {ks : List Key} {p : Nat} {x : Key} (H : Hole ks p) (hx : ∀ c a, 0 < c → (c - 1) / 2 = p → ks[c]? = some a → kge a x) (hy : ∀ b, 0 < p → ks[(p - 1) / 2]? = some b → kge x b) : HO (ks.set p x) := by
  intro i a b hi ha hb
  rcases get_set ha with ⟨e1, e2⟩ | ⟨e1, e2⟩ <;> rcases get_set hb with ⟨f1, f2⟩ | ⟨f1, f2⟩
  · (first | lia | omega)
  · subst e1; subst e2; exact hy b hi f2
  · subst f2; exact hx i a hi f1 e2
  · exact H.far i a b hi e1 f1 e2 f2
set_option tactic.hygienic true in
theorem sd_ok (x : Key) : ∀ (f : Nat) (ks : List Key) (p : Nat), p ≤ f → p < ks.length → Hole ks p → (∀ c a, 0 < c → (c - 1) / 2 = p → ks[c]? = some a → kge a x) → HO (sdLoop x 0 f ks p) := by
  intro f
  induction f with
  | zero =>
    intro ks p hf hp H hx
    obtain rfl : p = 0 := by (first | lia | omega)
    exact sd_done H hx fun b h => absurd h (Nat.lt_irrefl _)
  | succ f ih =>
    intro ks p hf hp H hx
    rw [sdLoop]
    split
    · next h0 =>
      split
      · next y hy =>
        split
        · next hlt =>
          have yx : kge y x := klt_asym hlt
          refine ih _ _ (by (first | lia | omega)) (by rw [List.length_set]; (first | lia | omega)) ⟨?_, ?_⟩ ?_
          · intro i a b hi h1 h2 ha hb
            rcases get_set ha with ⟨e1, e2⟩ | ⟨e1, e2⟩
            · subst e1; (first | lia | omega)
            · rcases get_set hb with ⟨f1, f2⟩ | ⟨f1, f2⟩
              · subst f2; exact H.near i a b h0 hi f1 e2 hy
              · exact H.far i a b hi e1 f1 e2 f2
          · intro c a b hp' hc hcp ha hb
            rcases get_set hb with ⟨f1, f2⟩ | ⟨f1, f2⟩
            · (first | lia | omega)
            · have yb : kge y b := H.far _ y b hp' (by (first | lia | omega)) (by (first | lia | omega)) hy f2
              rcases get_set ha with ⟨e1, e2⟩ | ⟨e1, e2⟩
              · subst e2; exact yb
              · exact kge_trans (H.far c a y hc e1 (by (first | lia | omega)) e2 (by rw [hcp]; exact hy)) yb
          · intro c a hc hcp ha
            rcases get_set ha with ⟨e1, e2⟩ | ⟨e1, e2⟩
            · subst e2; exact yx
            · exact kge_trans (H.far c a y hc e1 (by (first | lia | omega)) e2 (by rw [hcp]; exact hy)) yx
        · next hlt => exact sd_done H hx fun b h hb => by rw [hy] at hb; cases hb; exact Bool.eq_false_iff.mpr hlt
      · next hn => have := List.getElem?_eq_none_iff.mp hn; (first | lia | omega)
    · exact sd_done H hx fun b h => by (first | lia | omega)
set_option tactic.hygienic true in
theorem su_ok : ∀ (f : Nat) (ks : List Key) (p : Nat), ks.length - p ≤ f → p < ks.length → Hole ks p → Hole (suLoop f ks p).1 (suLoop f ks p).2 ∧ (suLoop f ks p).1.length ≤ 2 * (suLoop f ks p).2 + 1 := by
  intro f
  induction f with
  | zero => intro ks p hf hp H; (first | lia | omega)
  | succ f ih =>
    intro ks p hf hp H
    have step : ∀ c v, (c = 2 * p + 1 ∨ c = 2 * p + 2) → ks[c]? = some v → (∀ d a, 0 < d → (d - 1) / 2 = p → d ≠ c → ks[d]? = some a → kge a v) → Hole (ks.set p v) c := by
      intro c v hc hv hm
      have hcp : (c - 1) / 2 = p := by (first | lia | omega)
      refine ⟨?_, ?_⟩
      · intro i a b hi h1 h2 ha hb
        rcases get_set ha with ⟨e1, e2⟩ | ⟨e1, e2⟩
        · subst e1; subst e2
          rcases get_set hb with ⟨f1, f2⟩ | ⟨f1, f2⟩
          · (first | lia | omega)
          · exact H.near c _ b hi (by (first | lia | omega)) hcp hv f2
        · rcases get_set hb with ⟨f1, f2⟩ | ⟨f1, f2⟩
          · subst f2; exact hm i a hi f1 h1 e2
          · exact H.far i a b hi e1 f1 e2 f2
      · intro d a b h0 hd hdc ha hb
        rw [hcp] at hb
        rcases get_set hb with ⟨f1, f2⟩ | ⟨f1, f2⟩
        · subst f2
          rcases get_set ha with ⟨e1, e2⟩ | ⟨e1, e2⟩
          · (first | lia | omega)
          · exact H.far d a b hd e1 (by (first | lia | omega)) e2 (by rw [hdc]; exact hv)
        · exact absurd rfl f1
    rw [suLoop]
    split
    · next hn => exact ⟨H, by have := List.getElem?_eq_none_iff.mp hn; (first | lia | omega)⟩
    · next l hl =>
      have hl' := (List.getElem?_eq_some_iff.mp hl).1
      split
      · next hn =>
        have := List.getElem?_eq_none_iff.mp hn
        have := ih (ks.set p l) (2 * p + 1) (by rw [List.length_set]; (first | lia | omega)) (by rw [List.length_set]; exact hl') (step _ l (.inl rfl) hl fun d a h1 h2 h3 h4 => by
          have := (List.getElem?_eq_some_iff.mp h4).1; (first | lia | omega))
        exact this
      · next r hr =>
        have hr' := (List.getElem?_eq_some_iff.mp hr).1
        split
        · next hlt =>
          exact ih (ks.set p l) (2 * p + 1) (by rw [List.length_set]; (first | lia | omega)) (by rw [List.length_set]; exact hl') (step _ l (.inl rfl) hl fun d a h1 h2 h3 h4 => by
            obtain rfl : d = 2 * p + 2 := by (first | lia | omega)
            rw [hr] at h4; cases h4; exact klt_asym hlt)
        · next hlt =>
          exact ih (ks.set p r) (2 * p + 2) (by rw [List.length_set]; (first | lia | omega)) (by rw [List.length_set]; exact hr') (step _ r (.inr rfl) hr fun d a h1 h2 h3 h4 => by
            obtain rfl : d = 2 * p + 1 := by (first | lia | omega)
            rw [hl] at h4; cases h4; exact Bool.eq_false_iff.mpr hlt)
theorem HO.hole {ks : List Key} (h : HO ks) : Hole ks 0 := ⟨fun i a b hi _ _ ha hb => h i a b hi ha hb, fun c a b h0 => absurd h0 (Nat.lt_irrefl _)⟩
theorem HO.min {ks : List Key} (h : HO ks) {y : Key} (hy : ks[0]? = some y) : ∀ (i : Nat) (a : Key), ks[i]? = some a → kge a y := by
  intro i
  induction i using Nat.strongRecOn with
  | ind i ih =>
    intro a ha
    by_cases h0 : i = 0
    · subst h0; rw [hy] at ha; cases ha; exact kge_refl _
    · have hl := (List.getElem?_eq_some_iff.mp ha).1
      have hb : ks[(i - 1) / 2]? = some ks[(i - 1) / 2] := List.getElem?_eq_getElem (by (first | lia | omega))
      exact kge_trans (h i a _ (by (first | lia | omega)) ha hb) (ih _ (by (first | lia | omega)) _ hb)
set_option tactic.hygienic true in
theorem set_swap {ks : List Key} {i j : Nat} {x y : Key} (hi : i < ks.length) (hij : i ≠ j) (hj : ks[j]? = some y) : ((ks.set i y).set j x).Perm (ks.set i x) := by
  obtain ⟨hl, rfl⟩ := List.getElem?_eq_some_iff.mp hj
  rw [List.perm_iff_count]
  intro a
  have h1 : (ks.set i ks[j])[j]'(by rw [List.length_set]; exact hl) = ks[j] := List.getElem_set_ne hij _
  rw [List.count_set (by rw [List.length_set]; exact hl), List.count_set hi, List.count_set hi, h1]
  have c1 : (if (ks[i] == a) = true then 1 else 0) ≤ ks.count a := by
    split
    · next h => exact List.count_pos_iff.mpr (eq_of_beq h ▸ List.getElem_mem _)
    · exact Nat.zero_le _
  (first | lia | omega)
set_option tactic.hygienic true in
theorem sd_perm (x : Key) : ∀ (f : Nat) (ks : List Key) (p : Nat), p < ks.length → (sdLoop x 0 f ks p).Perm (ks.set p x) := by
  intro f
  induction f with
  | zero => intro ks p _; exact .refl _
  | succ f ih =>
    intro ks p hp
    rw [sdLoop]
    split
    · split
      · next y hy =>
        split
        · exact (ih _ _ (by rw [List.length_set]; (first | lia | omega))).trans (set_swap hp (by (first | lia | omega)) hy)
        · exact .refl _
      · next hn => have := List.getElem?_eq_none_iff.mp hn; (first | lia | omega)
    · exact .refl _
set_option tactic.hygienic true in
theorem su_perm (x : Key) : ∀ (f : Nat) (ks : List Key) (p : Nat), p < ks.length → ((suLoop f ks p).1.set (suLoop f ks p).2 x).Perm (ks.set p x) := by
  intro f
  induction f with
  | zero => intro ks p _; exact .refl _
  | succ f ih =>
    intro ks p hp
    rw [suLoop]
    split
    · exact .refl _
    · next l hl =>
      have hl' := (List.getElem?_eq_some_iff.mp hl).1
      split
      · exact (ih _ _ (by rw [List.length_set]; (first | lia | omega))).trans (set_swap hp (by (first | lia | omega)) hl)
      · next r hr =>
        have hr' := (List.getElem?_eq_some_iff.mp hr).1
        split
        · exact (ih _ _ (by rw [List.length_set]; (first | lia | omega))).trans (set_swap hp (by (first | lia | omega)) hl)
        · exact (ih _ _ (by rw [List.length_set]; (first | lia | omega))).trans (set_swap hp (by (first | lia | omega)) hr)
theorem siftup_ok {ks : List Key} {x : Key} (h0 : 0 < ks.length) (H : Hole ks 0) : HO (siftupL ks x) ∧ (siftupL ks x).Perm (ks.set 0 x) := by
  unfold siftupL
  have hl := suLoop_len ks.length ks 0 h0
  obtain ⟨h1, h2⟩ := su_ok ks.length ks 0 (by (first | lia | omega)) h0 H
  have hlen : ((suLoop ks.length ks 0).1.set (suLoop ks.length ks 0).2 x).length = ks.length := by rw [List.length_set, hl.1]
  refine ⟨sd_ok x _ _ _ (Nat.le_refl _) (by rw [hlen]; exact hl.2) ⟨?_, ?_⟩ ?_, ?_⟩
  · intro i a b hi n1 n2 ha hb
    rcases get_set ha with ⟨e1, e2⟩ | ⟨e1, e2⟩
    · exact absurd e1 n1
    · rcases get_set hb with ⟨f1, f2⟩ | ⟨f1, f2⟩
      · exact absurd f1 n2
      · exact h1.far i a b hi n1 n2 e2 f2
  · intro c a b hp hc hcp ha hb
    have := (List.getElem?_eq_some_iff.mp ha).1
    rw [hlen] at this; rw [hl.1] at h2; (first | lia | omega)
  · intro c a hc hcp ha
    have := (List.getElem?_eq_some_iff.mp ha).1
    rw [hlen] at this; rw [hl.1] at h2; (first | lia | omega)
  · exact (sd_perm x _ _ _ (by rw [hlen]; exact hl.2)).trans (by rw [List.set_set]; exact su_perm x _ _ _ h0)
theorem push_ok {ks : List Key} (x : Key) (H : HO ks) : HO (pushL ks x) ∧ (pushL ks x).Perm (x :: ks) := by
  unfold pushL
  have old : ∀ i a, i ≠ ks.length → (ks ++ [x])[i]? = some a → ks[i]? = some a := fun i a hn h => by
    have := (List.getElem?_eq_some_iff.mp h).1
    rw [List.length_append] at this
    rw [List.getElem?_append_left (by simp at this; (first | lia | omega))] at h; exact h
  refine ⟨sd_ok x _ _ _ (Nat.le_refl _) (by simp) ⟨?_, ?_⟩ ?_, ?_⟩
  · exact fun i a b hi n1 n2 ha hb => H i a b hi (old i a n1 ha) (old _ b n2 hb)
  · intro c a b hp hc hcp ha hb
    have := (List.getElem?_eq_some_iff.mp ha).1
    simp at this; (first | lia | omega)
  · intro c a hc hcp ha
    have := (List.getElem?_eq_some_iff.mp ha).1
    simp at this; (first | lia | omega)
  · refine (sd_perm x _ _ _ (by simp)).trans ?_
    have : (ks ++ [x]).set ks.length x = ks ++ [x] := by
      rw [List.set_append_right _ _ (Nat.le_refl _), Nat.sub_self]; rfl
    rw [this]
    exact List.perm_append_comm
theorem HO.set0 {ks : List Key} {x : Key} (H : HO ks) : Hole (ks.set 0 x) 0 := by
  refine ⟨fun i a b hi n1 n2 ha hb => ?_, fun c a b h0 => absurd h0 (Nat.lt_irrefl _)⟩
  rcases get_set ha with ⟨e1, e2⟩ | ⟨e1, e2⟩
  · exact absurd e1 n1
  · rcases get_set hb with ⟨f1, f2⟩ | ⟨f1, f2⟩
    · exact absurd f1 n2
    · exact H i a b hi e2 f2
theorem repl_ok {y : Key} {ks : List Key} (x : Key) (H : HO (y :: ks)) : HO (replL (y :: ks) x) ∧ (replL (y :: ks) x).Perm (x :: ks) := by
  unfold replL
  have := siftup_ok (ks := (y :: ks).set 0 x) (x := x) (by simp) H.set0
  rw [List.set_set] at this
  exact this
theorem pop_ok {ks : List Key} {x : Key} (H : HO (ks ++ [x])) : HO (popL ks x) ∧ ∀ y, (ks ++ [x])[0]? = some y → (y :: popL ks x).Perm (ks ++ [x]) := by
  unfold popL
  cases ks with
  | nil =>
    refine ⟨fun i a b _ ha => ?_, fun y h => ?_⟩
    · have ha' : ([] : List Key)[i]? = some a := ha
      simp at ha'
    · cases h; exact .refl _
  | cons z ks =>
    have H' : HO (z :: ks) := fun i a b hi ha hb => H i a b hi (by
      have := (List.getElem?_eq_some_iff.mp ha).1
      rw [List.getElem?_append_left this]; exact ha) (by
      have := (List.getElem?_eq_some_iff.mp hb).1
      rw [List.getElem?_append_left this]; exact hb)
    have := siftup_ok (ks := (z :: ks).set 0 x) (x := x) (by simp) H'.set0
    rw [List.set_set] at this
    refine ⟨this.1, fun y h => ?_⟩
    cases h
    exact (this.2.cons z).trans ((List.perm_append_comm (l₁ := [x]) (l₂ := ks)).cons z)
section
variable {p : Nat → Nat} {key : Nat → Key} {op : Nat → Bool}
set_option tactic.hygienic true in
theorem kmax_spec : ∀ (ks : List Key) (b : Key), kmax b ks ∈ b :: ks ∧ ∀ y ∈ b :: ks, kge (kmax b ks) y := by
  intro ks
  induction ks with
  | nil => intro b; exact ⟨List.mem_cons_self .., fun y hy => by rw [List.mem_singleton.mp hy]; exact kge_refl _⟩
  | cons x r ih =>
    intro b
    show kmax (if klt b x = true then x else b) r ∈ _ ∧ ∀ y ∈ b :: x :: r, kge (kmax (if klt b x = true then x else b) r) y
    obtain ⟨h1, h2⟩ := ih (if klt b x = true then x else b)
    have hb : kge (if klt b x = true then x else b) b ∧ kge (if klt b x = true then x else b) x := by
      split
      · next h => exact ⟨klt_asym h, kge_refl _⟩
      · next h => exact ⟨kge_refl _, Bool.eq_false_iff.mpr h⟩
    refine ⟨?_, fun y hy => ?_⟩
    · rcases List.mem_cons.mp h1 with h | h
      · rw [h]; split <;> simp
      · exact List.mem_cons_of_mem _ (List.mem_cons_of_mem _ h)
    · have h0 := h2 _ (List.mem_cons_self ..)
      rcases List.mem_cons.mp hy with rfl | hy
      · exact kge_trans h0 hb.1
      · rcases List.mem_cons.mp hy with rfl | hy
        · exact kge_trans h0 hb.2
        · exact h2 y (List.mem_cons_of_mem _ hy)
theorem chain_mid (hp : ∀ k, 0 < k → k ≤ 10 → p k < k) : ∀ k, k ≤ 10 → ∀ c y t, chain p k = c ++ y :: t → chain p y = c ++ [y] ∧ chain p (p y) = c ∧ 0 < y ∧ y ≤ k := by
  intro k
  induction k using Nat.strongRecOn with
  | ind k ih =>
    intro hk c y t h
    by_cases h0 : k = 0
    · subst h0; rw [chain_zero] at h; simp at h
    · have hs := chain_succ hp (Nat.pos_of_ne_zero h0) hk
      have hpk := hp k (Nat.pos_of_ne_zero h0) hk
      rcases List.eq_nil_or_concat t with rfl | ⟨t', z, rfl⟩
      · rw [hs] at h
        obtain ⟨h1, h2⟩ := List.append_inj' h rfl
        cases h2
        exact ⟨by rw [hs, h1], h1, Nat.pos_of_ne_zero h0, Nat.le_refl _⟩
      · rw [hs, List.concat_eq_append, ← List.cons_append, ← List.append_assoc] at h
        obtain ⟨h1, h2⟩ := List.append_inj' h rfl
        obtain ⟨a, b, d, e⟩ := ih (p k) hpk (by (first | lia | omega)) c y t' h1
        exact ⟨a, b, d, by (first | lia | omega)⟩
theorem chain_self (hp : ∀ k, 0 < k → k ≤ 10 → p k < k) {k : Nat} (h0 : 0 < k) (hk : k ≤ 10) : k ∈ chain p k := by rw [chain_succ hp h0 hk]; simp
theorem chain_pos (hp : ∀ k, 0 < k → k ≤ 10 → p k < k) {k j : Nat} (hk : k ≤ 10) (h : j ∈ chain p k) : 0 < j ∧ j ≤ k := by
  obtain ⟨c, t, h⟩ := List.append_of_mem h
  exact (chain_mid hp k hk c j t h).2.2

noncomputable def InF (p : Nat → Nat) (op : Nat → Bool) (ord : List Nat) (k : Nat) : Prop := 0 < k ∧ k ≤ 10 ∧ k ∉ ord ∧ (p k = 0 ∨ (p k ∈ ord ∧ op (p k) = true))
noncomputable def Run (p : Nat → Nat) (key : Nat → Key) (op : Nat → Bool) (ord : List Nat) : Prop := ∀ l1 k l2, ord = l1 ++ k :: l2 → InF p op l1 k ∧ ∀ x, InF p op l1 x → kge (key x) (key k)
theorem Run.nil : Run p key op [] := fun l1 k l2 h => by simp at h
theorem Run.pre {a b : List Nat} (h : Run p key op (a ++ b)) : Run p key op a := fun l1 k l2 e => h l1 k (l2 ++ b) (by rw [e]; simp)
theorem Run.snoc {ord : List Nat} {k : Nat} (h : Run p key op ord) (hk : InF p op ord k) (hm : ∀ x, InF p op ord x → kge (key x) (key k)) : Run p key op (ord ++ [k]) := by
  intro l1 j l2 e
  rcases List.eq_nil_or_concat l2 with rfl | ⟨l3, z, rfl⟩
  · obtain ⟨h1, h2⟩ := List.append_inj' e rfl
    cases h2; subst h1; exact ⟨hk, hm⟩
  · rw [List.concat_eq_append, ← List.cons_append, ← List.append_assoc] at e
    obtain ⟨h1, h2⟩ := List.append_inj' e rfl
    exact h l1 j l3 h1
theorem Run.up (hp : ∀ k, 0 < k → k ≤ 10 → p k < k) {ord : List Nat} (h : Run p key op ord) : ∀ k, 0 < k → k ≤ 10 → (p k = 0 ∨ (p k ∈ ord ∧ op (p k) = true)) → ∀ y ∈ chain p (p k), y ∈ ord ∧ op y = true := by
  intro k
  induction k using Nat.strongRecOn with
  | ind k ih =>
    intro k0 k1 hk y hy
    rcases hk with hk | ⟨h1, h2⟩
    · rw [hk, chain_zero] at hy; cases hy
    · have hpk := hp k k0 k1
      by_cases h0 : p k = 0
      · rw [h0, chain_zero] at hy; cases hy
      · rw [chain_succ hp (Nat.pos_of_ne_zero h0) (by (first | lia | omega))] at hy
        rcases List.mem_append.mp hy with hy | hy
        · obtain ⟨l1, l2, e⟩ := List.append_of_mem h1
          obtain ⟨⟨_, _, _, hin⟩, _⟩ := h l1 (p k) l2 e
          refine ih (p k) hpk (Nat.pos_of_ne_zero h0) (by (first | lia | omega)) ?_ y hy
          rcases hin with hin | ⟨a, b⟩
          · exact .inl hin
          · exact .inr ⟨by rw [e]; exact List.mem_append_left _ a, b⟩
        · rw [List.mem_singleton.mp hy]; exact ⟨h1, h2⟩
theorem Run.rng {ord : List Nat} (h : Run p key op ord) : ∀ k ∈ ord, 0 < k ∧ k ≤ 10 := fun k hk => by
  obtain ⟨l1, l2, e⟩ := List.append_of_mem hk
  exact ⟨(h l1 k l2 e).1.1, (h l1 k l2 e).1.2.1⟩
theorem Run.nodup {ord : List Nat} (h : Run p key op ord) : ord.Nodup := by
  induction hn : ord.length generalizing ord with
  | zero => rw [List.length_eq_zero_iff.mp hn]; exact List.nodup_nil
  | succ n ih =>
    rcases List.eq_nil_or_concat ord with rfl | ⟨l, k, rfl⟩
    · cases hn
    · rw [List.concat_eq_append] at h hn ⊢
      rw [List.length_append] at hn
      have h1 := ih h.pre (by simpa using hn)
      have h2 := (h l k [] rfl).1.2.2.1
      rw [List.nodup_append]
      exact ⟨h1, by simp, fun a ha b hb e => h2 (by rw [← List.mem_singleton.mp hb, ← e]; exact ha)⟩
theorem first_out {l t : List Nat} (h : ∃ x ∈ t, x ∉ l) : ∃ r x r', t = r ++ x :: r' ∧ (∀ y ∈ r, y ∈ l) ∧ x ∉ l := by
  induction t with
  | nil => obtain ⟨x, h, _⟩ := h; cases h
  | cons y t ih =>
    by_cases hy : y ∈ l
    · obtain ⟨x, hx, hn⟩ := h
      rcases List.mem_cons.mp hx with rfl | hx
      · exact absurd hy hn
      · obtain ⟨r, z, r', e, h1, h2⟩ := ih ⟨x, hx, hn⟩
        exact ⟨y :: r, z, r', by rw [e]; rfl, fun w hw => by rcases List.mem_cons.mp hw with rfl | hw; exact hy; exact h1 w hw, h2⟩
    · exact ⟨[], y, t, rfl, fun _ h => (List.not_mem_nil h).elim, hy⟩
theorem shareN_comm : ∀ (l m : List Nat), shareN l m = shareN m l := by
  intro l
  induction l with
  | nil => intro m; cases m <;> rfl
  | cons a l ih =>
    intro m
    cases m with
    | nil => rfl
    | cons b m =>
      unfold shareN
      by_cases h : a = b
      · rw [if_pos h, if_pos h.symm, ih]
      · rw [if_neg h, if_neg (Ne.symm h)]
theorem shareN_take : ∀ (l m : List Nat), l.take (shareN l m) = m.take (shareN l m) := by
  intro l
  induction l with
  | nil => intro m; show [] = m.take 0; rfl
  | cons a l ih =>
    intro m
    cases m with
    | nil => rfl
    | cons b m =>
      unfold shareN
      by_cases h : a = b
      · rw [if_pos h, List.take_succ_cons, List.take_succ_cons, ih, h]
      · rw [if_neg h]; rfl
theorem Run.ahead (hp : ∀ k, 0 < k → k ≤ 10 → p k < k) (hkey : ∀ j k, key j = key k → j = k) {ord : List Nat} {u v : Nat} (h : Run p key op (ord ++ [v])) (hu : u ∈ ord) : aheadB key (chain p u) (chain p v) = true ∧ aheadB key (chain p v) (chain p u) = false := by
  have ho : Run p key op ord := h.pre
  obtain ⟨hv, _⟩ := h ord v [] rfl
  obtain ⟨v0, v10, vn, vp⟩ := hv
  obtain ⟨u0, u10⟩ := ho.rng u hu
  have hup : ∀ y ∈ chain p u, y ∈ ord := by
    obtain ⟨l1, l2, e⟩ := List.append_of_mem hu
    obtain ⟨⟨_, _, _, hin⟩, _⟩ := ho l1 u l2 e
    intro y hy
    rw [chain_succ hp u0 u10] at hy
    rcases List.mem_append.mp hy with hy | hy
    · refine (ho.up hp u u0 u10 ?_ y hy).1
      rcases hin with hin | ⟨a, b⟩
      · exact .inl hin
      · exact .inr ⟨by rw [e]; exact List.mem_append_left _ a, b⟩
    · rw [List.mem_singleton.mp hy]; exact hu
  have hvp := ho.up hp v v0 v10 vp
  have hsl := shareN_le (chain p u) (chain p v)
  have htk := shareN_take (chain p u) (chain p v)
  have hsp := shareN_spec (chain p u) (chain p v) _ (Nat.le_refl _)
  have hcm := shareN_comm (chain p v) (chain p u)
  unfold aheadB
  rw [hcm]
  generalize hn : shareN (chain p u) (chain p v) = n at hsl htk hsp
  by_cases h1 : n = (chain p u).length
  · have h2 : n ≠ (chain p v).length := by
      intro h2
      rw [h1, List.take_length, ← h1, h2, List.take_length] at htk
      have a1 := chain_succ hp u0 u10
      have a2 := chain_succ hp v0 v10
      rw [htk, a2] at a1
      obtain ⟨_, h3⟩ := List.append_inj' a1 rfl
      cases h3
      exact vn hu
    rw [if_pos h1, if_neg h2, if_pos h1]
    exact ⟨decide_eq_true (by (first | lia | omega)), rfl⟩
  · have h2 : n ≠ (chain p v).length := by
      intro h2
      rw [h2, List.take_length] at htk
      have : v ∈ chain p u := List.mem_of_mem_take (by rw [htk]; exact chain_self hp v0 v10)
      exact vn (hup v this)
    rw [if_neg h1, if_neg h2, if_neg h2, if_neg h1]
    have d1 : (chain p u).take n ++ (chain p u).drop n = chain p u := List.take_append_drop ..
    have d2 : (chain p u).take n ++ (chain p v).drop n = chain p v := by rw [htk]; exact List.take_append_drop ..
    have l1 : 0 < ((chain p u).drop n).length := by rw [List.length_drop]; (first | lia | omega)
    have l2 : 0 < ((chain p v).drop n).length := by rw [List.length_drop]; (first | lia | omega)
    have hz : shareN ((chain p u).drop n) ((chain p v).drop n) = 0 := by (first | lia | omega)
    generalize (chain p u).drop n = t1 at d1 l1 hz
    generalize (chain p v).drop n = t2 at d2 l2 hz
    generalize (chain p u).take n = c at d1 d2
    cases t1 with
    | nil => cases l1
    | cons a t1 =>
      cases t2 with
      | nil => cases l2
      | cons b t2 =>
        have hab : a ≠ b := by
          intro e
          unfold shareN at hz
          rw [if_pos e] at hz; cases hz
        show klt (kmax (key a) (t1.map key)) (kmax (key b) (t2.map key)) = true ∧ klt (kmax (key b) (t2.map key)) (kmax (key a) (t1.map key)) = false
        suffices hk : klt (kmax (key a) (t1.map key)) (kmax (key b) (t2.map key)) = true from ⟨hk, klt_asym hk⟩
        cases hkl : klt (kmax (key a) (t1.map key)) (kmax (key b) (t2.map key)) with
        | true => rfl
        | false =>
          exfalso
          obtain ⟨m1, _⟩ := kmax_spec (t1.map key) (key a)
          obtain ⟨_, m2⟩ := kmax_spec (t2.map key) (key b)
          obtain ⟨M, hM, eM⟩ : ∃ M ∈ a :: t1, kmax (key a) (t1.map key) = key M := by
            rcases List.mem_cons.mp m1 with h | h
            · exact ⟨a, List.mem_cons_self .., h⟩
            · obtain ⟨M, h1, h2⟩ := List.mem_map.mp h
              exact ⟨M, List.mem_cons_of_mem _ h1, h2.symm⟩
          have hMo : M ∈ ord := hup M (by rw [← d1]; exact List.mem_append_right _ hM)
          obtain ⟨o1, o2, eo⟩ := List.append_of_mem hMo
          obtain ⟨hMF, hMm⟩ := ho o1 M o2 eo
          have ro : Run p key op o1 := by rw [eo] at ho; exact ho.pre
          obtain ⟨M0, M10, Mn, Mp⟩ := hMF
          have Mup := ro.up hp M M0 M10 Mp
          obtain ⟨r1, r1', er1⟩ := List.append_of_mem hM
          have cM := chain_mid hp u u10 (c ++ r1) M r1' (by rw [← d1, er1, List.append_assoc])
          have hvl : v ∈ b :: t2 := by
            have : chain p v = c ++ b :: t2 := d2.symm
            rw [chain_succ hp v0 v10] at this
            rcases List.eq_nil_or_concat (b :: t2) with h | ⟨t', z, h⟩
            · cases h
            · rw [h, List.concat_eq_append, ← List.append_assoc] at this
              obtain ⟨_, h3⟩ := List.append_inj' this rfl
              cases h3
              rw [h, List.concat_eq_append]; simp
          have hvo1 : v ∉ o1 := fun z => vn (by rw [eo]; exact List.mem_append_left _ z)
          obtain ⟨r, x, r', er, hr1, hx⟩ := first_out ⟨v, hvl, hvo1⟩
          have cX := chain_mid hp v v10 (c ++ r) x r' (by rw [← d2, er, List.append_assoc])
          have hcr : ∀ y ∈ c ++ r, y ∈ o1 := by
            intro y hy
            rcases List.mem_append.mp hy with hy | hy
            · exact (Mup y (by rw [cM.2.1]; exact List.mem_append_left _ hy)).1
            · exact hr1 y hy
          have hxF : InF p op o1 x := by
            refine ⟨cX.2.2.1, by have := cX.2.2.2; (first | lia | omega), hx, ?_⟩
            by_cases h0 : p x = 0
            · exact .inl h0
            · have hpx := hp x cX.2.2.1 (by have := cX.2.2.2; (first | lia | omega))
              have hin : p x ∈ c ++ r := by rw [← cX.2.1]; exact chain_self hp (Nat.pos_of_ne_zero h0) (by have := cX.2.2.2; (first | lia | omega))
              refine .inr ⟨hcr _ hin, (hvp _ ?_).2⟩
              have e1 : chain p (p v) ++ [v] = (c ++ r) ++ x :: r' := by rw [← chain_succ hp v0 v10, ← d2, er, List.append_assoc]
              rcases List.eq_nil_or_concat r' with rfl | ⟨q', z, rfl⟩
              · obtain ⟨h3, _⟩ := List.append_inj' e1 rfl
                rw [h3]; exact hin
              · rw [List.concat_eq_append, ← List.cons_append, ← List.append_assoc] at e1
                obtain ⟨h3, _⟩ := List.append_inj' e1 rfl
                rw [h3]; exact List.mem_append_left _ hin
          have k1 : kge (key x) (key M) := hMm x hxF
          have k2 : kge (kmax (key b) (t2.map key)) (key x) := m2 _ (by
            have hxt : x ∈ b :: t2 := by rw [er]; simp
            rcases List.mem_cons.mp hxt with rfl | hxt
            · exact List.mem_cons_self ..
            · exact List.mem_cons_of_mem _ (List.mem_map.mpr ⟨x, hxt, rfl⟩))
          have k3 : kge (key M) (kmax (key b) (t2.map key)) := by rw [eM] at hkl; exact hkl
          have k4 : key x = key M := klt_tot k1 (kge_trans k3 k2)
          have hxM := hkey _ _ k4
          subst hxM
          have e2 := cM.2.1.symm.trans cX.2.1
          have e3 := List.append_cancel_left e2
          subst e3
          cases r1 with
          | nil => cases er1; cases er; exact hab rfl
          | cons y r1 => cases er1; cases er; exact hab rfl
theorem Run.pairs (hp : ∀ k, 0 < k → k ≤ 10 → p k < k) (hkey : ∀ j k, key j = key k → j = k) {ord : List Nat} (h : Run p key op ord) : ord.Pairwise fun u v => aheadB key (chain p u) (chain p v) = true ∧ aheadB key (chain p v) (chain p u) = false := by
  induction hn : ord.length generalizing ord with
  | zero => rw [List.length_eq_zero_iff.mp hn]; exact List.Pairwise.nil
  | succ n ih =>
    rcases List.eq_nil_or_concat ord with rfl | ⟨l, k, rfl⟩
    · cases hn
    · rw [List.concat_eq_append] at h hn ⊢
      rw [List.length_append] at hn
      rw [List.pairwise_append]
      refine ⟨ih h.pre (by simpa using hn), List.pairwise_singleton _ _, fun a ha b hb => ?_⟩
      rw [List.mem_singleton.mp hb]
      exact h.ahead hp hkey ha
theorem ahead_irr (l : List Nat) : aheadB key l l = false := by
  have h : ∀ l : List Nat, shareN l l = l.length := by
    intro l
    induction l with
    | nil => rfl
    | cons a l ih => unfold shareN; rw [if_pos rfl, ih]; rfl
  unfold aheadB
  rw [h, if_pos rfl]
  exact decide_eq_false (Nat.lt_irrefl _)
theorem Run.cnt (hp : ∀ k, 0 < k → k ≤ 10 → p k < k) (hkey : ∀ j k, key j = key k → j = k) {ord ks l1 l2 : List Nat} {v : Nat} (h : Run p key op ord) (hk : ks.Perm ord) (e : ord = l1 ++ v :: l2) : cntA p key ks v = l1.length := by
  unfold cntA
  rw [(hk.filter _).length_eq, e, List.filter_append, List.length_append]
  have hpw := h.pairs hp hkey
  rw [e, List.pairwise_append] at hpw
  obtain ⟨_, h2, h3⟩ := hpw
  have a1 : l1.filter (fun j => aheadB key (chain p j) (chain p v)) = l1 := by
    rw [List.filter_eq_self]
    exact fun a ha => (h3 a ha v (List.mem_cons_self ..)).1
  have a2 : (v :: l2).filter (fun j => aheadB key (chain p j) (chain p v)) = [] := by
    rw [List.filter_eq_nil_iff]
    intro a ha
    rcases List.mem_cons.mp ha with rfl | ha
    · rw [ahead_irr]; decide
    · rw [(List.rel_of_pairwise_cons h2 ha).2]; decide
  rw [a1, a2]; rfl
theorem Run.sorted (hp : ∀ k, 0 < k → k ≤ 10 → p k < k) (hkey : ∀ j k, key j = key k → j = k) {ord ks : List Nat} (h : Run p key op ord) (hk : ks.Perm ord) : ord.Pairwise fun x y => cntA p key ks x < cntA p key ks y := by
  rw [List.pairwise_iff_getElem]
  intro i j hi hj hij
  have hs : ∀ i (hi : i < ord.length), cntA p key ks ord[i] = i := fun i hi => by
    rw [h.cnt hp hkey hk (l1 := ord.take i) (l2 := ord.drop (i + 1)) (v := ord[i]) (by rw [List.getElem_cons_drop, List.take_append_drop]), List.length_take]; (first | lia | omega)
  rw [hs i hi, hs j hj]; exact hij
theorem Run.cntNodup (hp : ∀ k, 0 < k → k ≤ 10 → p k < k) (hkey : ∀ j k, key j = key k → j = k) {ord ks : List Nat} (h : Run p key op ord) (hk : ks.Perm ord) : (ks.map fun (k : Nat) => (cntA p key ks k : Int)).Nodup := by
  rw [(hk.map _).nodup_iff]
  unfold List.Nodup
  rw [List.pairwise_map]
  exact (h.sorted hp hkey hk).imp fun h => by (first | lia | omega)
theorem Run.uniq (hp : ∀ k, 0 < k → k ≤ 10 → p k < k) (hkey : ∀ j k, key j = key k → j = k) {ord ks qs : List Nat} (h : Run p key op ord) (hk : ks.Perm ord) (hq : qs.Perm ks) (hs : qs.Pairwise fun x y => cntA p key ks x < cntA p key ks y) : qs = ord :=
  List.Perm.eq_of_pairwise (le := fun x y => cntA p key ks x < cntA p key ks y) (fun a b _ _ h1 h2 => by (first | lia | omega)) hs (h.sorted hp hkey hk) (hq.trans hk)
end
noncomputable def bigs : List Nat := (List.range 10).map (· + 1)
theorem mem_bigs {k : Nat} : k ∈ bigs ↔ 0 < k ∧ k ≤ 10 := by
  unfold bigs
  rw [List.mem_map]
  constructor
  · rintro ⟨a, h, rfl⟩; rw [List.mem_range] at h; (first | lia | omega)
  · rintro ⟨h1, h2⟩; exact ⟨k - 1, List.mem_range.mpr (by (first | lia | omega)), by (first | lia | omega)⟩
theorem bigs_len : bigs.length = 10 := rfl
structure SF (md : Nat → Int) (rw nn pt : Nat → Str) (mod : Str) (dirs : List Str) (an : Nat → Int) (en : Nat → Bool) : Prop where
  ans : ∀ k, 0 < k → k ≤ 10 → ansN mod dirs (some (pt k)) (nn k) = an k
  a01 : ∀ k, an k = 0 ∨ an k = 1
  inj : ∀ j k, 0 < j → j ≤ 10 → 0 < k → k ≤ 10 → nn j = nn k → j = k
  nos : ∀ k, 0 < k → k ≤ 10 → nn k ≠ Str.ofString "<string>"
  ent : ∀ k, 0 < k → k ≤ 10 → ((Builtin.bitAnd (md k) 61440 = 16384 ∧ goB (rw k) = true) ↔ en k = true)
noncomputable def opN (an : Nat → Int) (en : Nat → Bool) (k : Nat) : Bool := an k == 0 && en k
noncomputable def kvOf (nn : Nat → Str) (an : Nat → Int) (ord : List Nat) : List (Str × Int) := (Str.ofString "<string>", 1) :: ord.map fun k => (nn k, an k)
structure Iv (p : Nat → Nat) (rw nn : Nat → Str) (an : Nat → Int) (en : Nat → Bool) (t : Nat) (hp : List Key) (tl : List (Nat × Int)) (kv : List (Str × Int)) (ord : List Nat) : Prop where
  run : Run p (keyW rw) (opN an en) ord
  ho : HO hp
  mem : ∀ x, x ∈ hp ↔ ∃ k, InF p (opN an en) ord k ∧ x = keyW rw k
  nd : hp.Nodup
  tl : tl = ord.map fun k => (k, an k)
  kv : kv = kvOf nn an ord
  fin : hp = [] ∨ ord.length = t
section
variable {p : Nat → Nat} {md : Nat → Int} {rw nn pt : Nat → Str} {mod : Str} {dirs : List Str} {an : Nat → Int} {en : Nat → Bool} {t : Nat} {hp : List Key} {tl : List (Nat × Int)} {kv : List (Str × Int)} {ord : List Nat}
theorem keyW_inj {j k : Nat} (h : keyW rw j = keyW rw k) : j = k := by
  have : (keyW rw j).2 = (keyW rw k).2 := by rw [h]
  exact Int.ofNat.inj this
theorem dget_kvOf (S : SF md rw nn pt mod dirs an en) (hr : ∀ j ∈ ord, 0 < j ∧ j ≤ 10) {k : Nat} (k0 : 0 < k) (k1 : k ≤ 10) : dget (kvOf nn an ord) (nn k) = if k ∈ ord then some (an k) else none := by
  unfold dget kvOf
  rw [List.find?_cons_of_neg (by simpa using (S.nos k k0 k1).symm)]
  rw [List.find?_map]
  induction ord with
  | nil => rfl
  | cons j l ih =>
    obtain ⟨j0, j1⟩ := hr j (List.mem_cons_self ..)
    by_cases h : j = k
    · subst h
      rw [List.find?_cons_of_pos (by simp)]
      rw [if_pos (List.mem_cons_self ..)]; rfl
    · rw [List.find?_cons_of_neg (by simpa using fun e => h (S.inj j k j0 j1 k0 k1 e)), ih fun j hj => hr j (List.mem_cons_of_mem _ hj)]
      by_cases hl : k ∈ l
      · rw [if_pos hl, if_pos (List.mem_cons_of_mem _ hl)]
      · rw [if_neg hl, if_neg (by intro z; rcases List.mem_cons.mp z with z | z; exact h z.symm; exact hl z)]
theorem kvOf_01 (S : SF md rw nn pt mod dirs an en) {n : Str} {a : Int} (h : dget (kvOf nn an ord) n = some a) : a = 0 ∨ a = 1 := by
  unfold dget at h
  cases hf : (kvOf nn an ord).find? fun p => p.1 = n with
  | none => rw [hf] at h; cases h
  | some q =>
    rw [hf] at h
    cases h
    have := List.mem_of_find?_eq_some hf
    unfold kvOf at this
    rcases List.mem_cons.mp this with rfl | this
    · exact .inr rfl
    · obtain ⟨k, _, rfl⟩ := List.mem_map.mp this
      exact S.a01 k
theorem ansN_01 (f : Option Str) (n : Str) : ansN mod dirs f n = 0 ∨ ansN mod dirs f n = 1 := by
  unfold ansN
  split
  · exact .inr rfl
  · split
    · exact .inr rfl
    · split
      · exact .inr rfl
      · exact .inl rfl
set_option tactic.hygienic true in
theorem nres_01 (S : SF md rw nn pt mod dirs an en) (f : Option Str) (n : Str) : (nres mod dirs (kvOf nn an ord) f n).1 = 0 ∨ (nres mod dirs (kvOf nn an ord) f n).1 = 1 := by
  unfold nres
  split
  · next a h => exact kvOf_01 S h
  · exact ansN_01 f n
theorem Iv.ordLen (x : Iv p rw nn an en t hp tl kv ord) : ord.length ≤ 10 := by
  have := x.run.nodup.length_le_of_subset (l₂ := bigs) fun k hk => mem_bigs.mpr (x.run.rng k hk)
  rw [bigs_len] at this; exact this
theorem Iv.hpLen (x : Iv p rw nn an en t hp tl kv ord) : hp.length ≤ 10 := by
  have := x.nd.length_le_of_subset (l₂ := bigs.map (keyW rw)) fun y hy => by
    obtain ⟨k, h, e⟩ := (x.mem y).mp hy
    exact List.mem_map.mpr ⟨k, mem_bigs.mpr ⟨h.1, h.2.1⟩, e.symm⟩
  rw [List.length_map, bigs_len] at this; exact this
theorem Iv.b (S : SF md rw nn pt mod dirs an en) (x : Iv p rw nn an en t hp tl kv ord) : (∀ y ∈ hp, ∃ k, 0 < k ∧ k ≤ 10 ∧ y = keyW rw k) ∧ hp.length ≤ 100 ∧ kv.length ≤ 100 ∧ tl.length ≤ 100 ∧ ∀ k, 0 < k → k ≤ 10 → (nres mod dirs kv (some (pt k)) (nn k)).1 = 0 ∨ (nres mod dirs kv (some (pt k)) (nn k)).1 = 1 := by
  have h1 := x.ordLen
  have h2 := x.hpLen
  refine ⟨fun y hy => ?_, by (first | lia | omega), ?_, ?_, ?_⟩
  · obtain ⟨k, h, e⟩ := (x.mem y).mp hy
    exact ⟨k, h.1, h.2.1, e⟩
  · rw [x.kv]; unfold kvOf; rw [List.length_cons, List.length_map]; (first | lia | omega)
  · rw [x.tl, List.length_map]; (first | lia | omega)
  · rw [x.kv]; exact fun k _ _ => nres_01 S _ _
theorem pushes_ok (js : List Nat) : ∀ h : List Key, HO h → HO (pushes rw h js) ∧ (pushes rw h js).Perm (js.map (keyW rw) ++ h) := by
  induction js with
  | nil => intro h H; exact ⟨H, .refl _⟩
  | cons j js ih =>
    intro h H
    obtain ⟨h1, h2⟩ := push_ok (keyW rw j) H
    obtain ⟨h3, h4⟩ := ih _ h1
    exact ⟨h3, h4.trans ((h2.append_left _).trans List.perm_middle)⟩
theorem next_ok {y : Key} {ks : List Key} (H : HO (y :: ks)) (js : List Nat) : HO (nextH rw (y :: ks) js) ∧ (nextH rw (y :: ks) js).Perm (js.map (keyW rw) ++ ks) := by
  cases js with
  | nil =>
    unfold nextH
    have hne : (y :: ks) ≠ [] := by simp
    have hsp : (y :: ks).dropLast ++ [(y :: ks).getLast?.getD (Str.empty, 0)] = y :: ks := by
      rw [List.getLast?_eq_some_getLast hne]; exact List.dropLast_concat_getLast hne
    have := pop_ok (ks := (y :: ks).dropLast) (x := (y :: ks).getLast?.getD (Str.empty, 0)) (by rw [hsp]; exact H)
    rw [hsp] at this
    exact ⟨this.1, (this.2 y rfl).cons_inv⟩
  | cons j js =>
    unfold nextH
    obtain ⟨h1, h2⟩ := repl_ok (keyW rw j) H
    obtain ⟨h3, h4⟩ := pushes_ok (rw := rw) js _ h1
    refine ⟨h3, h4.trans ((h2.append_left _).trans ?_)⟩
    exact List.perm_middle
theorem HO_nil : HO [] := fun i a b _ h => by simp at h
theorem mem_kids {j k : Nat} : j ∈ kidsW p k ↔ 0 < j ∧ j ≤ 10 ∧ p j = k := by
  unfold kidsW
  rw [List.mem_filter, show (List.range 10).map (· + 1) = bigs from rfl, mem_bigs, beq_iff_eq]
  exact ⟨fun ⟨⟨a, b⟩, c⟩ => ⟨a, b, c⟩, fun ⟨a, b, c⟩ => ⟨⟨a, b⟩, c⟩⟩
theorem kids_nodup (k : Nat) : ((kidsW p k).map (keyW rw)).Nodup := by
  have h : (kidsW p k).Nodup := by
    unfold kidsW
    refine List.Pairwise.filter _ ?_
    rw [List.pairwise_map]
    exact List.nodup_range.imp fun h => by (first | lia | omega)
  unfold List.Nodup
  rw [List.pairwise_map]
  exact h.imp fun hne e => hne (keyW_inj e)
theorem Iv.start : Iv p rw nn an en 0 (pushes rw [] (kidsW p 0)) [] [(Str.ofString "<string>", 1)] [] := by
  obtain ⟨h1, h2⟩ := pushes_ok (rw := rw) (kidsW p 0) [] HO_nil
  rw [List.append_nil] at h2
  refine ⟨Run.nil, h1, fun x => ?_, h2.symm.nodup_iff.mp (kids_nodup 0), rfl, rfl, .inr rfl⟩
  rw [h2.mem_iff, List.mem_map]
  constructor
  · rintro ⟨k, hk, rfl⟩
    obtain ⟨a, b, c⟩ := mem_kids.mp hk
    exact ⟨k, ⟨a, b, List.not_mem_nil, .inl c⟩, rfl⟩
  · rintro ⟨k, ⟨a, b, _, c⟩, rfl⟩
    refine ⟨k, mem_kids.mpr ⟨a, b, ?_⟩, rfl⟩
    rcases c with c | ⟨c, _⟩
    · exact c
    · cases c
theorem Iv.step (hp' : ∀ k, 0 < k → k ≤ 10 → p k < k) (S : SF md rw nn pt mod dirs an en) {k : Nat} (k0 : 0 < k) (k1 : k ≤ 10) (x : Iv p rw nn an en t hp tl kv ord) (htop : hp[0]? = some (keyW rw k)) :
    Iv p rw nn an en (t + 1) (nextH rw hp (innW p md rw k (nres mod dirs kv (some (pt k)) (nn k)).1)) (tl ++ [(k, (nres mod dirs kv (some (pt k)) (nn k)).1)]) (nres mod dirs kv (some (pt k)) (nn k)).2 (ord ++ [k]) := by
  cases hp with
  | nil => cases htop
  | cons y ks =>
    obtain rfl : y = keyW rw k := by cases htop; rfl
    have hin : InF p (opN an en) ord k := by
      obtain ⟨j, h, e⟩ := (x.mem _).mp (List.mem_cons_self ..)
      rw [keyW_inj e]; exact h
    have hmin : ∀ z, InF p (opN an en) ord z → kge (keyW rw z) (keyW rw k) := fun z hz => by
      have : keyW rw z ∈ keyW rw k :: ks := (x.mem _).mpr ⟨z, hz, rfl⟩
      obtain ⟨i, hi, e⟩ := List.getElem_of_mem this
      exact x.ho.min rfl i _ (by rw [← e]; exact List.getElem?_eq_getElem hi)
    have hres : nres mod dirs kv (some (pt k)) (nn k) = (an k, kvOf nn an (ord ++ [k])) := by
      unfold nres
      rw [x.kv, dget_kvOf S x.run.rng k0 k1, if_neg hin.2.2.1]
      dsimp only
      rw [S.ans k k0 k1]
      unfold kvOf
      rw [List.map_append]; rfl
    rw [hres]
    dsimp only
    have hfin : ord.length = t := x.fin.resolve_left (by simp)
    obtain ⟨h1, h2⟩ := next_ok (rw := rw) x.ho (innW p md rw k (an k))
    have hinn : ∀ j, j ∈ innW p md rw k (an k) ↔ (opN an en k = true ∧ 0 < j ∧ j ≤ 10 ∧ p j = k) := by
      intro j
      unfold innW opN
      have he := S.ent k k0 k1
      by_cases hc : an k = 0 ∧ Builtin.bitAnd (md k) 61440 = 16384 ∧ goB (rw k) = true
      · rw [if_pos hc, mem_kids, he.mp hc.2, hc.1]; simp
      · rw [if_neg hc]
        constructor
        · intro h; cases h
        · rintro ⟨h, _⟩
          rw [Bool.and_eq_true, beq_iff_eq, ← he] at h
          exact absurd h hc
    have hnd := x.nd
    rw [List.nodup_cons] at hnd
    refine ⟨x.run.snoc hin hmin, h1, fun z => ?_, ?_, by rw [x.tl, List.map_append]; rfl, rfl, .inr (by rw [List.length_append, hfin]; rfl)⟩
    · rw [h2.mem_iff, List.mem_append, List.mem_map]
      constructor
      · rintro (⟨j, hj, rfl⟩ | hz)
        · obtain ⟨a, b, c, d⟩ := (hinn j).mp hj
          refine ⟨j, ⟨b, c, ?_, .inr ⟨by rw [d]; simp, by rw [d]; exact a⟩⟩, rfl⟩
          rw [List.mem_append, List.mem_singleton]
          rintro (hjo | rfl)
          · obtain ⟨l1, l2, e⟩ := List.append_of_mem hjo
            obtain ⟨⟨_, _, _, hh⟩, _⟩ := x.run l1 j l2 e
            rw [d] at hh
            rcases hh with hh | ⟨hh, _⟩
            · (first | lia | omega)
            · exact hin.2.2.1 (by rw [e]; exact List.mem_append_left _ hh)
          · have := hp' j b c; (first | lia | omega)
        · obtain ⟨j, ⟨a, b, c, d⟩, e⟩ := (x.mem z).mp (List.mem_cons_of_mem _ hz)
          refine ⟨j, ⟨a, b, ?_, ?_⟩, e⟩
          · rw [List.mem_append, List.mem_singleton]
            rintro (h | rfl)
            · exact c h
            · subst e; exact hnd.1 hz
          · rcases d with d | ⟨d, d'⟩
            · exact .inl d
            · exact .inr ⟨List.mem_append_left _ d, d'⟩
      · rintro ⟨j, ⟨a, b, c, d⟩, rfl⟩
        rw [List.mem_append, List.mem_singleton] at c
        have hold : (p j = 0 ∨ (p j ∈ ord ∧ opN an en (p j) = true)) → keyW rw j ∈ ks := fun h => by
          have := (x.mem (keyW rw j)).mpr ⟨j, ⟨a, b, fun z => c (.inl z), h⟩, rfl⟩
          rcases List.mem_cons.mp this with e | this
          · exact absurd (keyW_inj e) fun e => c (.inr e)
          · exact this
        rcases d with d | ⟨d, d'⟩
        · exact .inr (hold (.inl d))
        · rw [List.mem_append, List.mem_singleton] at d
          rcases d with d | d
          · exact .inr (hold (.inr ⟨d, d'⟩))
          · exact .inl ⟨j, (hinn j).mpr ⟨by rw [← d]; exact d', a, b, d⟩, rfl⟩
    · rw [h2.nodup_iff, List.nodup_append]
      refine ⟨?_, hnd.2, ?_⟩
      · unfold innW
        split
        · exact kids_nodup k
        · exact List.nodup_nil
      · rintro a ha b hb rfl
        obtain ⟨j, hj, rfl⟩ := List.mem_map.mp ha
        obtain ⟨_, j0, j1, hjk⟩ := (hinn j).mp hj
        obtain ⟨i, ⟨_, _, _, d⟩, e⟩ := (x.mem _).mp (List.mem_cons_of_mem _ hb)
        rw [← keyW_inj e, hjk] at d
        rcases d with d | ⟨d, _⟩
        · (first | lia | omega)
        · exact hin.2.2.1 d
theorem Iv.done (x : Iv p rw nn an en 10 hp tl kv ord) : hp = [] := by
  rcases x.fin with h | h
  · exact h
  · cases hp with
    | nil => rfl
    | cons y ks =>
      obtain ⟨k, ⟨a, b, c, _⟩, _⟩ := (x.mem y).mp (List.mem_cons_self ..)
      have hn : (k :: ord).Nodup := List.nodup_cons.mpr ⟨c, x.run.nodup⟩
      have := hn.length_le_of_subset (l₂ := bigs) fun j hj => by
        rcases List.mem_cons.mp hj with rfl | hj
        · exact mem_bigs.mpr ⟨a, b⟩
        · exact mem_bigs.mpr (x.run.rng j hj)
      rw [bigs_len, List.length_cons, h] at this
      (first | lia | omega)
end
section
variable {p : Nat → Nat} {md : Nat → Int} {nme : Nat} {ds : List Int}
noncomputable def anU (p : Nat → Nat) (nme : Nat) (ds : List Int) (k : Nat) : Int := ansI nme ds (chain p k).dropLast k
theorem anU_01 (k : Nat) : anU p nme ds k = 0 ∨ anU p nme ds k = 1 := by
  unfold anU ansI
  split
  · exact .inr rfl
  · exact .inl rfl
noncomputable abbrev opU (p : Nat → Nat) (md : Nat → Int) (nme : Nat) (ds : List Int) : Nat → Bool := opN (anU p nme ds) fun k => entersI (md k)
noncomputable def ksU (p : Nat → Nat) (md : Nat → Int) (nme : Nat) (ds : List Int) : Nat → List Nat
  | 0 => []
  | i + 1 => if (chain p (i + 1)).dropLast.all (fun j => decide (j ∈ ksU p md nme ds i) && opU p md nme ds j) = true then ksU p md nme ds i ++ [i + 1] else ksU p md nme ds i
noncomputable def itU (p : Nat → Nat) (nme : Nat) (ds : List Int) (k : Nat) : Int × V := ((k : Int), .int (anU p nme ds k))
theorem vat_ks (ks : List Nat) (j : Nat) : vat (ks.map (itU p nme ds)) (j : Int) = if j ∈ ks then some (.int (anU p nme ds j)) else none := by
  by_cases h : j ∈ ks
  · rw [if_pos h]; exact vat_map (f := fun k => .int (anU p nme ds k)) h
  · rw [if_neg h]
    refine vat_none fun e he => ?_
    obtain ⟨k, hk, rfl⟩ := List.mem_map.mp he
    intro z
    have : k = j := Int.ofNat.inj z
    exact h (this ▸ hk)
theorem okA_ks (ks : List Nat) (j : Nat) : okA (ks.map (itU p nme ds)) md j = (decide (j ∈ ks) && opU p md nme ds j) := by
  unfold okA
  rw [vat_ks]
  by_cases h : j ∈ ks
  · rw [if_pos h]
    show (!(anU p nme ds j == 1) && entersI (md j)) = _
    unfold opU opN
    rw [decide_eq_true h, Bool.true_and]
    rcases anU_01 (p := p) (nme := nme) (ds := ds) j with z | z <;> rw [z] <;> rfl
  · rw [if_neg h, decide_eq_false h]; rfl
theorem askU_ks : ∀ i, askU p md nme ds i = (ksU p md nme ds i).map (itU p nme ds) := by
  intro i
  induction i with
  | zero => rfl
  | succ i ih =>
    unfold askU ksU
    rw [ih]
    have : (chain p (i + 1)).dropLast.all (okA ((ksU p md nme ds i).map (itU p nme ds)) md) = (chain p (i + 1)).dropLast.all (fun j => decide (j ∈ ksU p md nme ds i) && opU p md nme ds j) := by
      congr 1; funext j; exact okA_ks _ _
    rw [this]
    split
    · rw [List.map_append]; rfl
    · rfl
theorem ksU_le : ∀ i, ∀ k ∈ ksU p md nme ds i, 0 < k ∧ k ≤ i := by
  intro i
  induction i with
  | zero => intro k h; cases h
  | succ i ih =>
    intro k h
    unfold ksU at h
    split at h
    · rcases List.mem_append.mp h with h | h
      · have := ih k h; (first | lia | omega)
      · rw [List.mem_singleton.mp h]; (first | lia | omega)
    · have := ih k h; (first | lia | omega)
theorem ksU_nodup : ∀ i, (ksU p md nme ds i).Nodup := by
  intro i
  induction i with
  | zero => exact List.nodup_nil
  | succ i ih =>
    unfold ksU
    split
    · rw [List.nodup_append]
      refine ⟨ih, by simp, fun a ha b hb e => ?_⟩
      have := (ksU_le i a ha).2
      rw [e, List.mem_singleton.mp hb] at this; (first | lia | omega)
    · exact ih
theorem ksU_more {k : Nat} : ∀ n, k ≤ n → (k ∈ ksU p md nme ds n ↔ k ∈ ksU p md nme ds k) := by
  intro n
  induction n with
  | zero => intro h; obtain rfl : k = 0 := by (first | lia | omega)
            exact Iff.rfl
  | succ n ih =>
    intro h
    by_cases e : k = n + 1
    · rw [e]
    · rw [← ih (by (first | lia | omega))]
      conv => lhs; unfold ksU
      split
      · rw [List.mem_append, List.mem_singleton]
        exact ⟨fun z => z.elim id fun z => absurd z e, .inl⟩
      · exact Iff.rfl
set_option tactic.hygienic true in
theorem mem_ksU (hp : ∀ k, 0 < k → k ≤ 10 → p k < k) {k : Nat} (k0 : 0 < k) (k1 : k ≤ 10) : k ∈ ksU p md nme ds 10 ↔ ∀ j ∈ chain p (p k), j ∈ ksU p md nme ds 10 ∧ opU p md nme ds j = true := by
  rw [ksU_more 10 k1]
  obtain ⟨i, rfl⟩ : ∃ i, k = i + 1 := ⟨k - 1, by (first | lia | omega)⟩
  have hd : (chain p (i + 1)).dropLast = chain p (p (i + 1)) := by rw [chain_succ hp k0 k1, List.dropLast_concat]
  conv => lhs; unfold ksU
  rw [hd]
  have hall : (chain p (p (i + 1))).all (fun j => decide (j ∈ ksU p md nme ds i) && opU p md nme ds j) = true ↔ ∀ j ∈ chain p (p (i + 1)), j ∈ ksU p md nme ds 10 ∧ opU p md nme ds j = true := by
    rw [List.all_eq_true]
    refine forall_congr' fun j => forall_congr' fun hj => ?_
    have hlt := hp (i + 1) k0 k1
    have := (chain_pos hp (by (first | lia | omega)) hj).2
    rw [Bool.and_eq_true, decide_eq_true_iff, ksU_more 10 (by (first | lia | omega) : j ≤ 10), ksU_more i (by (first | lia | omega) : j ≤ i)]
  rw [← hall]
  split
  · next h => exact ⟨fun _ => h, fun _ => by simp⟩
  · next h => exact ⟨fun z => by have := (ksU_le i _ z).2; (first | lia | omega), fun z => absurd z h⟩
theorem Iv.same (hp' : ∀ k, 0 < k → k ≤ 10 → p k < k) {rw nn : Nat → Str} {tl : List (Nat × Int)} {kv : List (Str × Int)} {ord : List Nat} {t : Nat} (x : Iv p rw nn (anU p nme ds) (fun k => entersI (md k)) t [] tl kv ord) : (ksU p md nme ds 10).Perm ord := by
  have key : ∀ k, 0 < k → k ≤ 10 → (k ∈ ksU p md nme ds 10 ↔ k ∈ ord) := by
    intro k
    induction k using Nat.strongRecOn with
    | ind k ih =>
      intro k0 k1
      have hlt := hp' k k0 k1
      rw [mem_ksU hp' k0 k1]
      constructor
      · intro h
        refine Classical.byContradiction fun hn => ?_
        have : keyW rw k ∈ ([] : List Key) := (x.mem _).mpr ⟨k, ⟨k0, k1, hn, ?_⟩, rfl⟩
        · cases this
        · by_cases h0 : p k = 0
          · exact .inl h0
          · obtain ⟨a, b⟩ := h (p k) (chain_self hp' (Nat.pos_of_ne_zero h0) (by (first | lia | omega)))
            exact .inr ⟨(ih (p k) hlt (Nat.pos_of_ne_zero h0) (by (first | lia | omega))).mp a, b⟩
      · intro h j hj
        obtain ⟨l1, l2, e⟩ := List.append_of_mem h
        obtain ⟨⟨_, _, _, hin⟩, _⟩ := x.run l1 k l2 e
        have := x.run.up hp' k k0 k1 (by
          rcases hin with hin | ⟨a, b⟩
          · exact .inl hin
          · exact .inr ⟨by rw [e]; exact List.mem_append_left _ a, b⟩) j hj
        obtain ⟨j0, j1⟩ := chain_pos hp' (by (first | lia | omega)) hj
        exact ⟨(ih j (by (first | lia | omega)) j0 (by (first | lia | omega))).mpr this.1, this.2⟩
  rw [List.perm_ext_iff_of_nodup (ksU_nodup 10) x.run.nodup]
  intro k
  constructor
  · intro h; obtain ⟨a, b⟩ := ksU_le 10 k h; exact (key k a b).mp h
  · intro h; obtain ⟨a, b⟩ := x.run.rng k h; exact (key k a b).mpr h
theorem gi_ks (ks : List Nat) (k : Nat) : gi (ks.map (itU p nme ds)) k = if k ∈ ks then anU p nme ds k else 1 := by
  unfold gi
  rw [vat_ks]
  by_cases h : k ∈ ks
  · rw [if_pos h, if_pos h]
  · rw [if_neg h, if_neg h]
end
section
variable {nn : Nat → Str} {mod : Str} {dirs : List Str}
theorem dget_snoc (kv : List (Str × Int)) (n m : Str) (a : Int) : dget (kv ++ [(n, a)]) m = match dget kv m with | some b => some b | none => if n = m then some a else none := by
  unfold dget
  rw [List.find?_append]
  cases h : kv.find? fun p => p.1 = m with
  | some q => rfl
  | none =>
    by_cases e : n = m
    · rw [if_pos e]; simp [e]
    · rw [if_neg e]; simp [e]
theorem ag_none (inj : ∀ j k, 0 < j → j ≤ 10 → 0 < k → k ≤ 10 → nn j = nn k → j = k) {kv : List (Str × Int)} {f : Nat → Option Int} (hf : ∀ k, 0 < k → k ≤ 10 → dget kv (nn k) = f k) : ∀ i, i ≤ 10 →
    (ag mod dirs (fun _ => none) nn kv i).2 = ((List.range i).map fun j => (f (j + 1)).getD 1) ∧ ∀ k, 0 < k → k ≤ 10 → dget (ag mod dirs (fun _ => none) nn kv i).1 (nn k) = if k ≤ i then some ((f k).getD 1) else f k := by
  intro i
  induction i with
  | zero => intro _; exact ⟨rfl, fun k k0 k1 => by rw [if_neg (by (first | lia | omega))]; exact hf k k0 k1⟩
  | succ i ih =>
    intro hi
    obtain ⟨h1, h2⟩ := ih (by (first | lia | omega))
    have h3 := h2 (i + 1) (by (first | lia | omega)) hi
    rw [if_neg (by (first | lia | omega))] at h3
    have han : ansN mod dirs none (nn (i + 1)) = 1 := by unfold ansN; split <;> rfl
    have hres : (nres mod dirs (ag mod dirs (fun _ => none) nn kv i).1 none (nn (i + 1))).1 = (f (i + 1)).getD 1 ∧ ∀ k, 0 < k → k ≤ 10 → dget (nres mod dirs (ag mod dirs (fun _ => none) nn kv i).1 none (nn (i + 1))).2 (nn k) = if k ≤ i + 1 then some ((f k).getD 1) else f k := by
      unfold nres
      rw [h3]
      cases hfi : f (i + 1) with
      | some a =>
        refine ⟨rfl, fun k k0 k1 => ?_⟩
        dsimp only
        rw [h2 k k0 k1]
        by_cases hk : k = i + 1
        · subst hk; rw [if_neg (by (first | lia | omega)), if_pos (by (first | lia | omega)), hfi]; rfl
        · by_cases hk' : k ≤ i
          · rw [if_pos hk', if_pos (by (first | lia | omega))]
          · rw [if_neg hk', if_neg (by (first | lia | omega))]
      | none =>
        dsimp only
        rw [han]
        refine ⟨rfl, fun k k0 k1 => ?_⟩
        rw [dget_snoc, h2 k k0 k1]
        by_cases hk : k = i + 1
        · subst hk
          have hk2 : ¬ i + 1 ≤ i := by (first | lia | omega)
          simp [hfi, hk2]
        · have hne : ¬ nn (i + 1) = nn k := fun e => hk (inj _ _ (by (first | lia | omega)) hi k0 k1 e).symm
          simp only [if_neg hne]
          by_cases hk' : k ≤ i
          · have hk2 : k ≤ i + 1 := by (first | lia | omega)
            simp only [if_pos hk', if_pos hk2]
          · have hk2 : ¬ k ≤ i + 1 := by (first | lia | omega)
            simp only [if_neg hk', if_neg hk2]
            cases f k <;> rfl
    refine ⟨?_, hres.2⟩
    show (ag mod dirs (fun _ => none) nn kv i).2 ++ [_] = _
    rw [h1, hres.1, List.range_succ, List.map_append]; rfl
theorem ag_some {g : Nat → Option Str} {kv : List (Str × Int)} {f : Nat → Int} (hf : ∀ k, 0 < k → k ≤ 10 → dget kv (nn k) = some (f k)) : ∀ i, i ≤ 10 → ag mod dirs g nn kv i = (kv, (List.range i).map fun j => f (j + 1)) := by
  intro i
  induction i with
  | zero => intro _; rfl
  | succ i ih =>
    intro hi
    have h1 := ih (by (first | lia | omega))
    have hres : nres mod dirs kv (g (i + 1)) (nn (i + 1)) = (f (i + 1), kv) := by unfold nres; rw [hf (i + 1) (by (first | lia | omega)) hi]
    show ((nres mod dirs (ag mod dirs g nn kv i).1 (g (i + 1)) (nn (i + 1))).2, (ag mod dirs g nn kv i).2 ++ [_]) = _
    rw [h1, hres, List.range_succ, List.map_append]; rfl
end
section
variable {G : Gl} {A : Around} {σ : Store} {Q : V → Store → Prop} {K : Frag} {C fI fN : Addr}
theorem holds {p : Nat → Nat} {md : Nat → Int} {nme d1 d2 p0 : Nat} {m0 : Int} {wh : Bool} {pa ma da : Addr} {mod : Str} (c : GC G K C fI fN) (X : GX G) (hp : ∀ k, 0 < k → k ≤ 10 → p k < k) (hr : Room A 16) (hok : ∀ k, k ≤ 10 → RowOk (md k)) (md0 : md 0 = 16384) (n0 : 0 < nme) (n1 : nme ≤ 10) (hd1 : 0 < d1 ∧ d1 ≤ 10) (hd2 : 0 < d2 ∧ d2 ≤ 10)
    (hpa : σ pa = some (.list (nls (p0 :: (List.range 10).map fun k => p (k + 1))))) (hma : σ ma = some (.list (ivs (m0 :: (List.range 10).map fun k => md (k + 1))))) (hda : σ da = some (.list (ivs [(d1 : Int), (d2 : Int)])))
    (hlen : ∀ k, k ≤ 10 → (fmode (md k)).length ≤ 1000 ∧ (sslice (fmode (md k)) (some 1) none none).length ≤ 1000 ∧ (sslice (fmode (md k)) (some 3) none (some 3)).length ≤ 1000 ∧ (sslice (fmode (md k)) (some 3) none (some 3)).cps.all (· < 128) = true)
    (hnp : ∀ k, 0 < k → k ≤ 10 → ∃ cs, NP (pathS (chain p k)) cs) (hmod : mod = if wh = true then nmR (fun k => fmode (md k)) nme else nm nme) (hml : mod.length ≤ 1000)
    (S : SF md (fun k => fmode (md k)) (nmR fun k => fmode (md k)) (fun k => pathS (chain p k)) mod [pathS (chain p d1), pathS (chain p d2)] (anU p nme [(d1 : Int), (d2 : Int)]) (fun k => entersI (md k)))
    (q : ∀ σ', Q (.bool true) σ') : FN G A (.ref (G.fn 51)) [.ref pa, .ref ma, .int nme, .bool wh, .ref da] σ Q := by
  refine FN.fn5 "parents" "modes" "name" "whole" "dirs" hr ?_
  intro L pm cd doc A' hr'
  have hcp : ∀ k, k ≤ 10 → ∀ j ∈ chain p k, 0 < j ∧ j ≤ 10 := fun k hk j hj => by have := chain_pos hp hk hj; (first | lia | omega)
  conv in bodyOf 51 => whnf
  refine EX.cons (ES.asg (rows1 (md := md) (m0 := m0) X (hr'.less (by decide)) rfl hma fun ra σ₁ s1 h1 => ?_))
  refine AS.cell (EX.cons (ES.ite (TR.cmp (EV.cell rfl ?_))))
  refine rows2 (md := md) (m0 := m0) (hr'.less (by decide)) (fun k _ hk => hok k hk) rfl (s1 _ _ hma) fun rb σ₂ s2 h2 => ?_
  refine OP.neL hr' (s2 _ _ h1) h2 (strL_flat _) (TV.bool (ifF (EX.nil ?_)))
  replace h1 := s2 _ _ h1
  have s12 := s1.trans s2
  clear h2
  refine EX.cons (ES.asg (EV.call 44 ?_))
  walk_at "ev"
  refine chains hp (hr'.less (by decide)) (s12 _ _ hpa) fun ca σ₃ s3 hc => ?_
  refine AS.loc (EX.cons ?_)
  refine paths_ hp (hr'.less (by decide)) hcp rfl hc fun ta σ₄ s4 ht => ?_
  refine EX.cons (ES.asg ?_)
  have hra : LS σ₄ ra fun k => .str (fmode (md k)) := LS.of (f := fun k => V.str (fmode (md k))) (v0 := .str "") (s4 _ _ (s3 _ _ h1))
  refine names_list (rw := fun k => fmode (md k)) (hr'.less (by decide)) (fun k _ hk => (hlen k hk).1) rfl hra fun na σ₅ s5 hn => ?_
  refine AS.cell (EX.cons (ES.asg ?_))
  have s35 := s4.trans s5
  have s15 := (s12.trans s3).trans s35
  have hna : LS σ₅ na fun k => .str (nmR (fun k => fmode (md k)) k) := LS.of (f := fun k => V.str (nmR (fun k => fmode (md k)) k)) (v0 := .str "") hn
  have hta : LS σ₅ ta fun k => .str (pathS (chain p k)) := ⟨pathsL p 11, s5 _ _ ht, by simp [pathsL], fun k k0 k1 => by unfold pathsL; rw [List.getElem?_map, List.getElem?_range (by (first | lia | omega))]; rfl⟩
  have hra5 : LS σ₅ ra fun k => .str (fmode (md k)) := hra.keep (s5 _)
  have hc5 := hc.sub s35
  clear hn ht hra hc h1
  refine EV.mono (Q := fun v σ' => v = .str mod ∧ Sub σ₅ σ') ?hmd ?hrest
  case hmd =>
    refine EV.ite (TR.val (EV.loc rfl (TV.bool (iteB (fun hw => ?_) fun hw => ?_))))
    · obtain ⟨vn, e1, e2, e3⟩ := hna
      walk_at "ev"
      refine GI.listN e1 (e3 nme n0 n1) (by (first | lia | omega)) ⟨?_, Sub.refl _⟩
      rw [hmod, if_pos hw]
    · refine EV.call 43 ?_
      walk_at "ev"
      obtain ⟨j, rfl⟩ : ∃ j, nme = j + 1 := ⟨nme - 1, by (first | lia | omega)⟩
      refine called (hr'.less (by decide)) (by (first | lia | omega)) fun σ' hs => ⟨?_, hs⟩
      rw [hmod, if_neg (by rw [hw]; decide)]
  rintro _ σ₆ ⟨rfl, s6⟩
  refine AS.loc (EX.cons (ES.asg (EV.make c (hr'.less (by decide : 11 ≤ 15)) ?_)))
  walk_at "ev"
  refine ⟨by show 1 ≤ 1000; decide, fun mo hmo => ?_⟩
  walk_at "ev"
  refine EV.lc ["paths"] ?hm0 (hfr := ?hf0) (hsee := ?hs0)
  case hf0 => exact ⟨⟨rfl, rfl⟩, trivial⟩
  case hs0 => intro y hy L'; rw [List.mem_singleton.mp hy]; rfl
  refine IT.val (EV.loc rfl (ITV.list hr'.hd (Sub.new hmo _ _ _ (s6 _ _ (s15 _ _ hda))) ?_))
  refine ⟨fun i acc σ' => Sub (upd σ₆ mo (.list [.str mod])) σ' ∧ acc = (([d1, d2].take i).map fun k => V.str (pathS (chain p k))), by show 2 ≤ 1000; decide, ⟨Sub.refl _, rfl⟩, ?_, ?_⟩
  · rintro L' i v acc σ₇ hv hC ⟨hs, rfl⟩
    obtain ⟨k, hk, rfl, k0, k1⟩ : ∃ k, [d1, d2][i]? = some k ∧ v = .int (k : Nat) ∧ 0 < k ∧ k ≤ 10 := by
      match i, hv with
      | 0, hv => cases hv; exact ⟨d1, rfl, rfl, hd1⟩
      | 1, hv => cases hv; exact ⟨d2, rfl, rfl, hd2⟩
    obtain ⟨vt, e1, e2, e3⟩ := hta
    have g1 : sees ["paths"] (setv (setv (setv (setv (setv (bindV [("parents", V.ref pa), ("modes", V.ref ma), ("name", V.int nme), ("whole", V.bool wh), ("dirs", V.ref da)] fun x => none) "rows" (V.ref ra)) "chains" (V.ref ca)) "paths" (V.ref ta)) "names" (V.ref na)) "module" (.str mod)) "paths" = some (.ref ta) := rfl
    walk_at "ev"
    refine IFS.nil (ifT ?_)
    walk_at "ev"
    refine GI.listN (hs _ _ (Sub.new hmo _ _ _ (s6 _ _ e1))) (e3 k k0 k1) (by (first | lia | omega)) ?_
    refine ⟨hC, hs, ?_⟩
    rw [List.take_add_one, hk, List.map_append]; rfl
  rintro acc σ₇ - hC ⟨s7, rfl⟩ di hdi
  have hdl : ([d1, d2].take (ivs [(d1 : Int), (d2 : Int)]).length).map (fun k => V.str (pathS (chain p k))) = [pathS (chain p d1), pathS (chain p d2)].map .str := rfl
  rw [hdl]
  walk_at "ev"
  intro x d A₂ hr₂ hxd hx hd
  have s58 : ∀ o, Sub σ₅ (upd σ₇ di o) := fun o => (s6.trans (Sub.new hmo _)).trans (s7.trans (Sub.new hdi o))
  refine init_ c (mod := mod) (ds := [pathS (chain p d1), pathS (chain p d2)]) (hr₂.less (by decide)) hxd hx hd (Sub.new hdi _ _ _ (s7 _ _ (upd_same _ _ _))) (upd_same _ _ _) rfl (by show 2 ≤ 10; decide) ?_ fun m dd g σ₈ s8 rd => ⟨rfl, ?_⟩
  · intro y hy
    rcases List.mem_cons.mp hy with rfl | hy
    · exact hnp d1 hd1.1 hd1.2
    · rw [List.mem_singleton.mp hy]; exact hnp d2 hd2.1 hd2.2
  have s58' : Sub σ₅ σ₈ := (s58 _).trans s8
  replace hna := hna.keep (s58' _)
  replace hta := hta.keep (s58' _)
  replace hra5 := hra5.keep (s58' _)
  replace hc5 := hc5.sub s58'
  have s08 := s15.trans s58'
  have hpa8 := s08 _ _ hpa
  have hma8 := s08 _ _ hma
  have hda8 := s08 _ _ hda
  clear s58' s58 s08 s8 s7 s6 s15 s35 s5 s4 s3 s12 s2 s1 hC hda hma hpa hx hd
  refine AS.cell (EX.cons (ES.asg (EV.call 46 ?_)))
  walk_at "ev"
  have hpl : LS σ₈ pa fun k => .int (p k : Nat) := LS.of (f := fun k => V.int (p k : Nat)) (v0 := .int (p0 : Nat)) (by rw [hpa8]; unfold nls; rw [List.map_cons, List.map_map]; rfl)
  have hml8 : LS σ₈ ma fun k => .int (md k) := LS.of (f := fun k => V.int (md k)) (v0 := .int m0) (by rw [hma8]; unfold ivs; rw [List.map_cons, List.map_map]; rfl)
  have hdl : ∀ y ∈ [pathS (chain p d1), pathS (chain p d2)], y.length ≤ 1000 := by
    intro y hy
    rcases List.mem_cons.mp hy with rfl | hy
    · obtain ⟨_, N⟩ := hnp d1 hd1.1 hd1.2; exact N.len
    · rw [List.mem_singleton.mp hy]; obtain ⟨_, N⟩ := hnp d2 hd2.1 hd2.2; exact N.len
  refine walk c X (hr'.less (by decide)) hpl hml8 hra5 hta hna rd (fun k _ hk => hlen k hk) hml hdl
    (fun t h tl kv => ∃ ord, Iv p (fun k => fmode (md k)) (nmR fun k => fmode (md k)) (anU p nme [(d1 : Int), (d2 : Int)]) (fun k => entersI (md k)) t h tl kv ord) ⟨[], Iv.start⟩ (fun t h tl kv ⟨_, x⟩ => x.b S) (fun t k h tl kv k0 k1 ⟨_, x⟩ ht => ⟨_, x.step hp S k0 k1 ht⟩)
    (fun t tl kv ⟨ord, x⟩ => ⟨ord, ⟨x.run, x.ho, x.mem, x.nd, x.tl, x.kv, .inl rfl⟩⟩) (fun h tl kv ⟨_, x⟩ => x.done) fun to tl kv σ₉ ⟨ord, iv⟩ s9 hto rd9 => ?_
  have hlg : ∀ a vs, σ₈ a = some (.list vs) → σ₉ a = some (.list vs) := fun a vs h => s9 a _ (by rintro rfl; rw [rd.ig] at h; cases h) h
  replace hna : LS σ₉ na fun k => .str (nmR (fun k => fmode (md k)) k) := let ⟨vs, e1, e2, e3⟩ := hna; ⟨vs, hlg _ _ e1, e2, e3⟩
  replace hta : LS σ₉ ta fun k => .str (pathS (chain p k)) := let ⟨vs, e1, e2, e3⟩ := hta; ⟨vs, hlg _ _ e1, e2, e3⟩
  replace hc5 : LL σ₉ ca 11 (chain p) := let ⟨as, e1, e2, e3⟩ := hc5; ⟨as, hlg _ _ e1, e2, fun j a e => ⟨(e3 j a e).1, hlg _ _ (e3 j a e).2⟩⟩
  replace hma8 := hlg _ _ hma8
  replace hda8 := hlg _ _ hda8
  clear hlg s9 hpl hml8 hra5 hpa8 rd
  refine AS.loc (EX.cons (ES.asg (EV.call 48 ?_)))
  walk_at "ev"
  refine answers hp (md := md) (m0 := m0) (dirs := [(d1 : Int), (d2 : Int)]) (hr'.less (by decide)) hma8 hc5 hda8 (fun k hk j hj => hcp k hk j (List.dropLast_subset _ hj)) fun aa ep σa sa haa => ?_
  refine AS.cell (EX.cons ?_)
  refine keys_ (md := md) (m0 := m0) (hr'.less (by decide)) md0 hok (fun k hk => (hlen k hk).2.1) rfl (sa _ _ hma8) fun ka σb sb hka => ?_
  have sab := sa.trans sb
  replace hc5 := hc5.sub sab
  replace haa := sb _ _ haa
  replace hto := sab _ _ hto
  replace rd9 := rd9.sub sab
  replace hna := hna.keep (sab _)
  replace hta := hta.keep (sab _)
  clear hma8 hda8 sab sa sb
  have hkm : keyM md = keyW fun k => fmode (md k) := rfl
  have hkey : ∀ j k, keyM md j = keyM md k → j = k := fun j k h => by rw [hkm] at h; exact keyW_inj h
  have hperm := iv.same hp
  have hrun := iv.run
  rw [← hkm] at hrun
  rw [askU_ks] at haa
  have hkl : ∀ k ∈ ksU p md nme [(d1 : Int), (d2 : Int)] 10, 0 < k ∧ k ≤ 10 := ksU_le 10
  have hkz : (ksU p md nme [(d1 : Int), (d2 : Int)] 10).length ≤ 10 := by rw [hperm.length_eq]; exact iv.ordLen
  refine EX.cons (ES.ite (TR.cmp (EV.loc rfl (EV.call 50 ?_))))
  walk_at "ev"
  refine wanted hp (key := keyM md) (ks := ksU p md nme [(d1 : Int), (d2 : Int)] 10) (ans := anU p nme [(d1 : Int), (d2 : Int)]) (hr'.less (by decide)) hkl (ksU_nodup 10) hkz (fun k hk j hj => (hcp k hk j hj).2) anU_01 haa hc5 hka (hrun.cntNodup hp hkey hperm) fun wa qs σc sc hqp hqs hwa => ?_
  have hqo := hrun.uniq hp hkey hperm hqp hqs
  subst hqo
  have htl : tl.map toV = qs.map fun (k : Nat) => V.tup [.int (k : Nat), .str (toString (anU p nme [(d1 : Int), (d2 : Int)] k))] := by rw [iv.tl, List.map_map]; rfl
  rw [htl] at hto
  refine OP.neL hr' (sc _ _ hto) hwa ?_ (TV.bool (ifF (EX.nil ?_)))
  · rw [List.all_eq_true]
    intro v hv
    obtain ⟨k, _, rfl⟩ := List.mem_map.mp hv
    rfl
  replace haa := sc _ _ haa
  replace rd9 := rd9.sub sc
  replace hna := hna.keep (sc _)
  replace hta := hta.keep (sc _)
  clear hwa hto hka hc5 sc
  rw [iv.kv] at rd9
  have hf := fun k k0 k1 => dget_kvOf S hrun.rng (k := k) k0 k1
  have hag := ag_none (mod := mod) (dirs := [pathS (chain p d1), pathS (chain p d2)]) S.inj hf
  have hf01 : ∀ k, (if k ∈ qs then some (anU p nme [(d1 : Int), (d2 : Int)] k) else none : Option Int).getD 1 = 0 ∨ (if k ∈ qs then some (anU p nme [(d1 : Int), (d2 : Int)] k) else none : Option Int).getD 1 = 1 := fun k => by
    split
    · exact anU_01 k
    · exact .inr rfl
  have hkvl : (kvOf (nmR fun k => fmode (md k)) (anU p nme [(d1 : Int), (d2 : Int)]) qs).length ≤ 100 := by
    have := iv.ordLen
    unfold kvOf; rw [List.length_cons, List.length_map]; (first | lia | omega)
  refine EX.cons (again_ c X (hr'.less (by decide)) rfl rfl hna rd9 (by (first | lia | omega)) hml hdl ?h01 fun ga σd sd hga rdd => ?_)
  case h01 =>
    intro i hi
    have e := (hag (i + 1) (by (first | lia | omega))).1
    have e2 : (ag mod [pathS (chain p d1), pathS (chain p d2)] (fun _ => none) (nmR fun k => fmode (md k)) (kvOf (nmR fun k => fmode (md k)) (anU p nme [(d1 : Int), (d2 : Int)]) qs) i).2 ++ [_] = _ := e
    rw [List.range_succ, List.map_append] at e2
    obtain ⟨_, e3⟩ := List.append_inj' e2 rfl
    have e4 := List.head_eq_of_cons_eq e3
    rw [e4]; exact hf01 _
  have haad : σd aa = _ := sd _ _ (by rintro rfl; rw [rd9.ig] at haa; cases haa) haa
  have hlg : ∀ a vs, σc a = some (.list vs) → σd a = some (.list vs) := fun a vs h => sd a _ (by rintro rfl; rw [rd9.ig] at h; cases h) h
  replace hna : LS σd na fun k => .str (nmR (fun k => fmode (md k)) k) := let ⟨vs, e1, e2, e3⟩ := hna; ⟨vs, hlg _ _ e1, e2, e3⟩
  replace hta : LS σd ta fun k => .str (pathS (chain p k)) := let ⟨vs, e1, e2, e3⟩ := hta; ⟨vs, hlg _ _ e1, e2, e3⟩
  clear haa hlg sd
  obtain ⟨ha1, ha2⟩ := hag 10 (Nat.le_refl _)
  rw [ha1] at hga
  have hal := ag_len mod [pathS (chain p d1), pathS (chain p d2)] (fun _ => none) (nmR fun k => fmode (md k)) (kvOf (nmR fun k => fmode (md k)) (anU p nme [(d1 : Int), (d2 : Int)]) qs) 10
  generalize (ag mod [pathS (chain p d1), pathS (chain p d2)] (fun _ => none) (nmR fun k => fmode (md k)) (kvOf (nmR fun k => fmode (md k)) (anU p nme [(d1 : Int), (d2 : Int)]) qs) 10).1 = kv1 at rdd ha2 hal
  have hso := ag_some (mod := mod) (dirs := [pathS (chain p d1), pathS (chain p d2)]) (g := fun k => some (pathS (chain p k))) (nn := nmR fun k => fmode (md k)) (kv := kv1) (f := fun k => (if k ∈ qs then some (anU p nme [(d1 : Int), (d2 : Int)] k) else none : Option Int).getD 1) fun k k0 k1 => by rw [ha2 k k0 k1, if_pos k1]
  refine EX.cons (once_ (pt := fun k => pathS (chain p k)) c X (hr'.less (by decide)) rfl rfl rfl hna hta rdd (by (first | lia | omega)) hml hdl ?h01 fun oa σe se hoa rde => ?_)
  case h01 =>
    intro i hi
    rw [hso i (by (first | lia | omega))]
    unfold nres
    rw [ha2 (i + 1) (by (first | lia | omega)) (by (first | lia | omega)), if_pos (by (first | lia | omega))]
    exact hf01 _
  rw [hso 10 (Nat.le_refl _)] at hoa
  replace haad := se _ _ (by rintro rfl; rw [rdd.ig] at haad; cases haad) haad
  replace hga := se _ _ (by rintro rfl; rw [rdd.ig] at hga; cases hga) hga
  refine EX.cons (want_ (hr'.less (by decide)) rfl haad ?hint fun va σf sf hva => ?_)
  case hint =>
    intro e he
    obtain ⟨k, _, rfl⟩ := List.mem_map.mp he
    exact ⟨_, rfl, anU_01 k⟩
  have hwl : wantL ((ksU p md nme [(d1 : Int), (d2 : Int)] 10).map (itU p nme [(d1 : Int), (d2 : Int)])) 10 = (List.range 10).map fun j => (if j + 1 ∈ qs then some (anU p nme [(d1 : Int), (d2 : Int)] (j + 1)) else none : Option Int).getD 1 := by
    unfold wantL
    refine List.map_congr_left fun j _ => ?_
    rw [gi_ks]
    by_cases hj : j + 1 ∈ qs
    · rw [if_pos hj, if_pos (hperm.mem_iff.mpr hj)]; rfl
    · rw [if_neg hj, if_neg fun z => hj (hperm.mem_iff.mp z)]; rfl
  rw [hwl] at hva
  refine EX.cons (ES.ret (EV.and (EV.cmp (EV.loc rfl (EV.loc rfl (OP.eqL hr' (sf _ _ hga) hva (strI_flat _) (TV.bool (ifT ?_))))))))
  refine EV.one (EV.cmp (EV.loc rfl (EV.loc rfl (OP.eqL hr' (sf _ _ hoa) hva (strI_flat _) ?_))))
  exact q _
end
noncomputable abbrev cl (x : Str) : List Nat := x.cps.toList
theorem cl_len (x : Str) : (cl x).length = x.length := by unfold cl Str.length; rw [Array.length_toList]
theorem cl_inj {x y : Str} (h : cl x = cl y) : x = y := str_ext h
theorem cl_app (x y : Str) : cl (x ++ y) = cl x ++ cl y := by
  show (x.cps ++ y.cps).toList = _
  rw [Array.toList_append]
theorem starts_iff (x y : Str) : Txt.startswith x y = true ↔ cl y <+: cl x := by
  unfold Txt.startswith
  rw [Bool.and_eq_true, StrLaws.subAt_eq, List.drop_zero, beq_iff_eq, decide_eq_true_iff, Nat.zero_add]
  constructor
  · rintro ⟨_, h⟩; show y.cps.toList <+: _; rw [← h]; exact List.take_prefix ..
  · intro h
    refine ⟨by rw [← cl_len, ← cl_len]; exact h.length_le, ?_⟩
    rw [← cl_len]; exact (List.prefix_iff_eq_take.mp h).symm
theorem word_cut (c : Nat) {s t : List Nat} (ht : t = [] ∨ ∃ t', t = c :: t') : ∀ (u v : List Nat), c ∉ u → c ∉ v → u ++ c :: s <+: v ++ t → u = v ∧ c :: s <+: t := by
  intro u
  induction u with
  | nil =>
    intro v _ hv h
    cases v with
    | nil => exact ⟨rfl, h⟩
    | cons y v =>
      rw [List.nil_append, List.cons_append, List.cons_prefix_cons] at h
      exact absurd (by rw [h.1]; exact List.mem_cons_self ..) hv
  | cons x u ih =>
    intro v hu hv h
    cases v with
    | nil =>
      rcases ht with rfl | ⟨t', rfl⟩
      · have := h.length_le; simp at this
      · rw [List.nil_append, List.cons_append, List.cons_prefix_cons] at h
        exact absurd (by rw [h.1]; exact List.mem_cons_self ..) hu
    | cons y v =>
      rw [List.cons_append, List.cons_append, List.cons_prefix_cons] at h
      obtain ⟨h1, h2⟩ := ih v (fun z => hu (List.mem_cons_of_mem _ z)) (fun z => hv (List.mem_cons_of_mem _ z)) h.2
      exact ⟨by rw [h.1, h1], h2⟩
noncomputable def nmC (k : Nat) : List Nat := cl (nm k)
theorem nmC_facts : ∀ k ∈ bigs, 46 ∉ nmC k ∧ 47 ∉ nmC k ∧ nmC k ≠ [] ∧ (nmC k).length ≤ 2 := by decide
theorem nmC_inj' : ∀ j ∈ bigs, ∀ k ∈ bigs, nmC j = nmC k → j = k := by decide
noncomputable def PC (l : List Nat) : List Nat := l.flatMap fun k => 47 :: nmC k
theorem glued_nil : ∀ (ss : List Str) (acc : Array Nat), (ss.foldl (fun acc p => acc ++ (Str.ofString "").cps ++ p.cps) acc).toList = acc.toList ++ ss.flatMap cl := by
  intro ss
  induction ss with
  | nil => intro acc; simp
  | cons s ss ih =>
    intro acc
    rw [List.foldl_cons, ih, List.flatMap_cons, Array.toList_append, Array.toList_append]
    have : (Str.ofString "").cps.toList = [] := rfl
    rw [this, List.append_nil, List.append_assoc]
theorem join_nil (ss : List Str) : cl (Txt.join (Str.ofString "") ss) = ss.flatMap cl := by
  cases ss with
  | nil => rfl
  | cons s ss =>
    show (ss.foldl (fun acc p => acc ++ (Str.ofString "").cps ++ p.cps) s.cps).toList = _
    rw [glued_nil]; rfl
theorem path_cl (l : List Nat) : cl (pathS l) = PC l := by
  unfold pathS
  rw [join_nil]
  unfold PC
  induction l with
  | nil => rfl
  | cons k l ih => rw [List.map_cons, List.flatMap_cons, List.flatMap_cons, ih, cl_app]; rfl
theorem PC_cons (a : Nat) (l : List Nat) : PC (a :: l) = 47 :: (nmC a ++ PC l) := by unfold PC; rw [List.flatMap_cons]; rfl
theorem PC_head (l : List Nat) : PC l = [] ∨ ∃ t', PC l = 47 :: t' := by
  cases l with
  | nil => exact .inl rfl
  | cons a l => exact .inr ⟨_, PC_cons a l⟩
theorem PC_prefix : ∀ (m l : List Nat), (∀ k ∈ m, k ∈ bigs) → (∀ k ∈ l, k ∈ bigs) → (PC m ++ [47] <+: PC l ↔ ∃ y t, l = m ++ y :: t) := by
  intro m
  induction m with
  | nil =>
    intro l _ _
    cases l with
    | nil => exact ⟨fun h => by have := h.length_le; simp [PC] at this, fun ⟨y, t, h⟩ => by cases h⟩
    | cons b l => rw [PC_cons]; exact ⟨fun _ => ⟨b, l, rfl⟩, fun _ => by show [47] <+: _; rw [List.cons_prefix_cons]; exact ⟨rfl, List.nil_prefix⟩⟩
  | cons a m ih =>
    intro l hm hl
    have fa := nmC_facts a (hm a (List.mem_cons_self ..))
    obtain ⟨s, hs⟩ : ∃ s, PC m ++ [47] = 47 :: s := by
      rcases PC_head m with h | ⟨t', h⟩
      · exact ⟨[], by rw [h]; rfl⟩
      · exact ⟨t' ++ [47], by rw [h]; rfl⟩
    cases l with
    | nil => exact ⟨fun h => by have := h.length_le; simp [PC_cons] at this; simp [PC] at this, fun ⟨y, t, h⟩ => by cases h⟩
    | cons b l =>
      have fb := nmC_facts b (hl b (List.mem_cons_self ..))
      rw [PC_cons, PC_cons, List.cons_append, List.cons_prefix_cons, List.append_assoc]
      have ih' := ih l (fun k h => hm k (List.mem_cons_of_mem _ h)) (fun k h => hl k (List.mem_cons_of_mem _ h))
      constructor
      · rintro ⟨_, h⟩
        rw [hs] at h
        obtain ⟨h1, h2⟩ := word_cut 47 (PC_head l) _ _ fa.2.1 fb.2.1 h
        rw [← hs, ih'] at h2
        obtain ⟨y, t, e⟩ := h2
        have := nmC_inj' a (hm a (List.mem_cons_self ..)) b (hl b (List.mem_cons_self ..)) h1
        exact ⟨y, t, by rw [this, e]; rfl⟩
      · rintro ⟨y, t, e⟩
        cases e
        exact ⟨rfl, (List.prefix_append_right_inj _).mpr (ih'.mpr ⟨y, t, rfl⟩)⟩
set_option tactic.hygienic true in
theorem ss_any (x : Str) (a b : Nat) (lo hi : Option Int) (hab : a ≤ b) (hb : b ≤ x.length) (e : Builtin.Str.strSliceIndices lo hi 1 x.length = sliceRange a b 1) : cl (sslice x lo hi none) = ((cl x).drop a).take (b - a) := by
  have hpick := pick_run x.cps a (b - a)
  unfold sslice
  simp only [Option.getD_none, e, sliceRange_one]
  split
  · next h =>
    rw [Bool.and_eq_true, beq_iff_eq, beq_iff_eq, List.length_map, List.length_range] at h
    have h0 : a = 0 ∨ x.length = 0 := by (first | lia | omega)
    have hl := cl_len x
    rcases h0 with h0 | h0
    · subst h0; rw [List.drop_zero, List.take_of_length_le (by (first | lia | omega))]
    · have : cl x = [] := List.length_eq_zero_iff.mp (by (first | lia | omega))
      rw [this]; simp
  · show (((List.range (b - a)).map (a + ·)).filterMap (x.cps[·]?)).toArray.toList = _
    rw [hpick]
theorem ss_from1 (x : Str) (h : 1 ≤ x.length) : cl (sslice x (some 1) none none) = (cl x).drop 1 := by
  rw [ss_any x 1 x.length (some 1) none h (Nat.le_refl _)]
  · rw [List.take_of_length_le]; rw [List.length_drop, cl_len]; exact Nat.le_refl _
  · unfold Builtin.Str.strSliceIndices
    have h1 : max 0 (min (1 : Int) (x.length : Int)) = ((1 : Nat) : Int) := by (first | lia | omega)
    simp only [show ¬ ((1 : Int) < 0) by decide, if_false, show (1 : Int) > 0 by decide, if_true, h1]
theorem ss_to1 (x : Str) (h : 1 ≤ x.length) : cl (sslice x none (some 1) none) = (cl x).take 1 := by
  rw [ss_any x 0 1 none (some 1) (by (first | lia | omega)) h]
  · rfl
  · unfold Builtin.Str.strSliceIndices
    have h1 : max 0 (min (1 : Int) (x.length : Int)) = ((1 : Nat) : Int) := by (first | lia | omega)
    simp only [show ¬ ((1 : Int) < 0) by decide, if_false, show (1 : Int) > 0 by decide, if_true, h1]; rfl
theorem ss_12 (x : Str) (h : 2 ≤ x.length) : cl (sslice x (some 1) (some 2) none) = ((cl x).drop 1).take 1 := by
  rw [ss_any x 1 2 (some 1) (some 2) (by (first | lia | omega)) h]
  unfold Builtin.Str.strSliceIndices
  have h1 : max 0 (min (1 : Int) (x.length : Int)) = ((1 : Nat) : Int) := by (first | lia | omega)
  have h2 : max 0 (min (2 : Int) (x.length : Int)) = ((2 : Nat) : Int) := by (first | lia | omega)
  simp only [show ¬ ((1 : Int) < 0) by decide, show ¬ ((2 : Int) < 0) by decide, if_false, show (1 : Int) > 0 by decide, if_true, h1, h2]
/-- no empty words -/
noncomputable def NoGap (l : List Nat) : Prop := ∀ i, l[i]? = some 47 → 0 < i ∧ i + 1 < l.length ∧ l[i + 1]? ≠ some 47
theorem sub_cl (x : Str) (a b : Nat) : cl (Builtin.Str.strSub x a b) = ((cl x).take b).drop a := by
  unfold Builtin.Str.strSub cl
  simp [Array.toList_extract, List.extract_eq_take_drop, List.drop_take]
theorem parts_ok {x : Str} (hg : NoGap (cl x)) : ∀ (cuts : List Nat) (a f : Nat), StrLaws.ChainTo x ⟨#[47]⟩ x.length a cuts f → a < x.length → (a = 0 ∨ (cl x)[a - 1]? = some 47) → ∀ c ∈ StrLaws.partsFrom x 1 a cuts, c.length ≠ 0 ∧ c.length ≤ x.length ∧ ∀ y ∈ cl c, y ∈ cl x := by
  have one : ∀ a b, a < b → b ≤ x.length → (Builtin.Str.strSub x a b).length ≠ 0 ∧ (Builtin.Str.strSub x a b).length ≤ x.length ∧ ∀ y ∈ cl (Builtin.Str.strSub x a b), y ∈ cl x := by
    intro a b hab hb
    have hl : (Builtin.Str.strSub x a b).length = b - a := by
      rw [← cl_len, sub_cl, List.length_drop, List.length_take, cl_len]; (first | lia | omega)
    rw [hl]
    refine ⟨by (first | lia | omega), by (first | lia | omega), fun y hy => ?_⟩
    rw [sub_cl] at hy
    exact List.mem_of_mem_take (List.mem_of_mem_drop hy)
  intro cuts
  induction cuts with
  | nil =>
    intro a f _ ha _ c hc
    unfold StrLaws.partsFrom at hc
    rw [List.mem_singleton.mp hc]
    exact one a x.length ha (Nat.le_refl _)
  | cons i r ih =>
    intro a f h ha hp c hc
    obtain ⟨h1, h2, h3⟩ := h
    have hi : (cl x)[i]? = some 47 := (StrLaws.subAt_one x 47 i).mp h2
    obtain ⟨g1, g2, g3⟩ := hg i hi
    rw [cl_len] at g2
    have hne : a ≠ i := by
      rintro rfl
      rcases hp with rfl | hp
      · exact absurd g1 (Nat.lt_irrefl _)
      · obtain ⟨_, _, k3⟩ := hg _ hp
        rw [Nat.sub_add_cancel g1] at k3
        exact k3 hi
    unfold StrLaws.partsFrom at hc
    rcases List.mem_cons.mp hc with rfl | hc
    · exact one a i (by (first | lia | omega)) (by (first | lia | omega))
    · exact ih (i + 1) f h3 g2 (.inr (by rw [Nat.add_sub_cancel]; exact hi)) c hc
theorem split_ok {x : Str} (hg : NoGap (cl x)) (hx : 0 < x.length) : (Txt.split x ⟨#[47]⟩).length ≤ x.length + 2 ∧ Txt.join ⟨#[47]⟩ (Txt.split x ⟨#[47]⟩) = x ∧ ∀ c ∈ Txt.split x ⟨#[47]⟩, c.length ≠ 0 ∧ c.length ≤ x.length ∧ ∀ y ∈ cl c, y ∈ cl x := by
  have triv : ([x] : List Str).length ≤ x.length + 2 ∧ Txt.join ⟨#[47]⟩ [x] = x ∧ ∀ c ∈ [x], c.length ≠ 0 ∧ c.length ≤ x.length ∧ ∀ y ∈ cl c, y ∈ cl x := by
    refine ⟨by simp, rfl, fun c hc => ?_⟩
    rw [List.mem_singleton.mp hc]
    exact ⟨by (first | lia | omega), Nat.le_refl _, fun y h => h⟩
  unfold Txt.split
  split
  · exact triv
  · split
    · exact triv
    · obtain ⟨f, hch⟩ := StrLaws.occ_chain x ⟨#[47]⟩ (x.length + 1)
      refine ⟨?_, StrLaws.glued_between_self x ⟨#[47]⟩ (x.length + 1), ?_⟩
      · rw [length_partsBetween]
        have := StrLaws.occ_length_le x ⟨#[47]⟩ 0 x.length (x.length + 1)
        (first | lia | omega)
      · rw [StrLaws.partsBetween_eq]
        exact parts_ok hg _ 0 f hch hx (.inl rfl)
noncomputable def NG (l : List Nat) : Prop := ∀ u v, l = u ++ 47 :: v → u ≠ [] ∧ ∃ c v', v = c :: v' ∧ c ≠ 47
theorem NG.gap {l : List Nat} (h : NG l) : NoGap l := by
  intro i hi
  obtain ⟨hl, he⟩ := List.getElem?_eq_some_iff.mp hi
  have e : l = l.take i ++ 47 :: l.drop (i + 1) := by rw [← he, List.getElem_cons_drop, List.take_append_drop]
  obtain ⟨h1, c, v', h2, h3⟩ := h _ _ e
  have hlen : (l.drop (i + 1)).length = l.length - (i + 1) := List.length_drop ..
  rw [h2, List.length_cons] at hlen
  refine ⟨Nat.pos_of_ne_zero fun z => h1 (by rw [z]; rfl), by (first | lia | omega), ?_⟩
  have : (l.drop (i + 1))[0]? = some c := by rw [h2]; rfl
  rw [List.getElem?_drop, Nat.add_zero] at this
  rw [this]; intro z; cases z; exact h3 rfl
theorem NG_path : ∀ (l : List Nat) (a : Nat), a ∈ bigs → (∀ k ∈ l, k ∈ bigs) → NG (nmC a ++ PC l) := by
  intro l
  induction l with
  | nil =>
    intro a ha _ u v h
    have fa := nmC_facts a ha
    exfalso
    apply fa.2.1
    have : PC [] = [] := rfl
    rw [this, List.append_nil] at h
    rw [h]; simp
  | cons b l ih =>
    intro a ha hl u v h
    have fa := nmC_facts a ha
    have hb := hl b (List.mem_cons_self ..)
    have fb := nmC_facts b hb
    have main : ∀ w, u = nmC a ++ w → PC (b :: l) = w ++ 47 :: v → u ≠ [] ∧ ∃ c v', v = c :: v' ∧ c ≠ 47 := by
      intro w hu hw
      refine ⟨fun z => fa.2.2.1 (List.append_eq_nil_iff.mp (hu ▸ z)).1, ?_⟩
      rw [PC_cons] at hw
      cases w with
      | nil =>
        cases hw
        cases hn : nmC b with
        | nil => exact absurd hn fb.2.2.1
        | cons c r => exact ⟨c, _, rfl, fun z => fb.2.1 (by rw [hn, z]; exact List.mem_cons_self ..)⟩
      | cons c w =>
        rw [List.cons_append] at hw
        injection hw with _ hw
        exact (ih b hb (fun k h => hl k (List.mem_cons_of_mem _ h)) w v hw).2
    rcases List.append_eq_append_iff.mp h with ⟨w, h1, h2⟩ | ⟨w, h1, h2⟩
    · exact main w h1 h2
    · cases w with
      | nil => rw [List.append_nil] at h1; exact main [] (by rw [List.append_nil]; exact h1.symm) h2.symm
      | cons c w =>
        rw [List.cons_append] at h2
        injection h2 with h2 _
        exact absurd (by rw [h1, ← h2]; simp) fa.2.1
theorem PC_len (l : List Nat) (hl : ∀ k ∈ l, k ∈ bigs) : (PC l).length ≤ 3 * l.length := by
  induction l with
  | nil => exact Nat.le_refl _
  | cons a l ih =>
    have := (nmC_facts a (hl a (List.mem_cons_self ..))).2.2.2
    have := ih fun k h => hl k (List.mem_cons_of_mem _ h)
    rw [PC_cons, List.length_cons, List.length_append, List.length_cons]; (first | lia | omega)
theorem PC_no46 (l : List Nat) (hl : ∀ k ∈ l, k ∈ bigs) : 46 ∉ PC l := by
  induction l with
  | nil => intro h; cases h
  | cons a l ih =>
    have := (nmC_facts a (hl a (List.mem_cons_self ..))).1
    have h2 := ih fun k h => hl k (List.mem_cons_of_mem _ h)
    rw [PC_cons, List.mem_cons, List.mem_append]
    rintro (h | h | h)
    · cases h
    · exact this h
    · exact h2 h
theorem sl_eq : Str.ofString "/" = ⟨#[47]⟩ := by decide
theorem np_path {l : List Nat} (hl : ∀ k ∈ l, k ∈ bigs) (hne : l ≠ []) (hz : l.length ≤ 10) : ∃ cs, NP (pathS l) cs := by
  cases l with
  | nil => exact absurd rfl hne
  | cons a l =>
    have ha := hl a (List.mem_cons_self ..)
    have hl' : ∀ k ∈ l, k ∈ bigs := fun k h => hl k (List.mem_cons_of_mem _ h)
    have fa := nmC_facts a ha
    have hcl : cl (pathS (a :: l)) = 47 :: (nmC a ++ PC l) := by rw [path_cl, PC_cons]
    have hPl := PC_len l hl'
    have hlen : (pathS (a :: l)).length = 1 + ((nmC a).length + (PC l).length) := by rw [← cl_len, hcl, List.length_cons, List.length_append]; (first | lia | omega)
    have hna : 0 < (nmC a).length := List.length_pos_iff.mpr fa.2.2.1
    rw [List.length_cons] at hz
    generalize pathS (a :: l) = p at hcl hlen
    have hx : cl (sslice p (some 1) none none) = nmC a ++ PC l := by rw [ss_from1 p (by (first | lia | omega)), hcl]; rfl
    have hxl : (sslice p (some 1) none none).length = (nmC a).length + (PC l).length := by rw [← cl_len, hx, List.length_append]
    have hg : NoGap (cl (sslice p (some 1) none none)) := by rw [hx]; exact (NG_path l a ha hl').gap
    obtain ⟨o1, o2, o3⟩ := split_ok hg (by (first | lia | omega))
    have hc46 : 46 ∉ cl (sslice p (some 1) none none) := by
      rw [hx, List.mem_append]
      rintro (h | h)
      · exact fa.1 h
      · exact PC_no46 l hl' h
    have h12 : cl (sslice p (some 1) (some 2) none) = (nmC a).take 1 := by
      rw [ss_12 p (by (first | lia | omega)), hcl]
      show (nmC a ++ PC l).take 1 = _
      rw [List.take_append_of_le_length (by (first | lia | omega))]
    refine ⟨Txt.split (sslice p (some 1) none none) ⟨#[47]⟩, by (first | lia | omega), by (first | lia | omega), ?_, ?_, ?_, by (first | lia | omega), by rw [sl_eq], by (first | lia | omega), ?_, ?_, by rw [sl_eq, o2]; (first | lia | omega)⟩
    · apply cl_inj; rw [ss_to1 p (by (first | lia | omega)), hcl]; rfl
    · rw [← cl_len, h12, List.length_take]; (first | lia | omega)
    · rw [bne_iff_ne]
      intro z
      have := congrArg cl z
      rw [h12] at this
      apply fa.2.1
      have h47 : 47 ∈ (nmC a).take 1 := by rw [this]; decide
      exact List.mem_of_mem_take h47
    · intro c hc
      obtain ⟨c1, c2, c3⟩ := o3 c hc
      refine ⟨c1, ?_, ?_, by (first | lia | omega)⟩
      · rw [beq_eq_false_iff_ne]
        rintro rfl
        exact hc46 (c3 46 (by decide))
      · rw [bne_iff_ne]
        rintro rfl
        exact hc46 (c3 46 (by decide))
    · rw [sl_eq, o2]
      apply cl_inj
      rw [cl_app, hx, hcl]; rfl
section
variable {p : Nat → Nat} {rw : Nat → Str} {nme d1 d2 : Nat} {wh : Bool} {mod : Str}
theorem nmR_cl (k : Nat) : cl (nmR rw k) = nmC k ++ 46 :: cl (rw k) := by unfold nmR; rw [cl_app, cl_app, List.append_assoc]; rfl
theorem nmR_inj {j k : Nat} (hj : j ∈ bigs) (hk : k ∈ bigs) (h : nmR rw j = nmR rw k) : j = k := by
  have := congrArg cl h
  rw [nmR_cl, nmR_cl] at this
  have h2 := word_cut 46 (s := cl (rw j)) (t := 46 :: cl (rw k)) (.inr ⟨_, rfl⟩) (nmC j) (nmC k) (nmC_facts j hj).1 (nmC_facts k hk).1 (by rw [this]; exact List.prefix_refl _)
  exact nmC_inj' j hj k hk h2.1
theorem nmR_nos (k : Nat) : nmR rw k ≠ Str.ofString "<string>" := by
  intro h
  have := congrArg cl h
  rw [nmR_cl] at this
  have h46 : 46 ∈ cl (Str.ofString "<string>") := by rw [← this]; simp
  revert h46; decide
theorem mod_iff (hn : nme ∈ bigs) {k : Nat} (hk : k ∈ bigs) (hmod : mod = if wh = true then nmR rw nme else nm nme) : (nmR rw k = mod ∨ Txt.startswith (nmR rw k) (mod ++ Str.ofString ".") = true) ↔ k = nme := by
  have fk := nmC_facts k hk
  have fn := nmC_facts nme hn
  have hdot : cl (Str.ofString ".") = [46] := by decide
  rw [starts_iff, cl_app, hdot, nmR_cl]
  cases wh with
  | false =>
    rw [if_neg (by decide)] at hmod
    subst hmod
    constructor
    · rintro (h | h)
      · have := congrArg cl h
        rw [nmR_cl] at this
        exact absurd (by show 46 ∈ cl (nm nme); rw [← this]; simp) fn.1
      · have h2 := word_cut 46 (s := []) (t := 46 :: cl (rw k)) (.inr ⟨_, rfl⟩) (nmC nme) (nmC k) fn.1 fk.1 h
        exact (nmC_inj' nme hn k hk h2.1).symm
    · rintro rfl
      refine .inr ?_
      show nmC k ++ [46] <+: _
      rw [List.prefix_append_right_inj, List.cons_prefix_cons]
      exact ⟨rfl, List.nil_prefix⟩
  | true =>
    rw [if_pos rfl] at hmod
    subst hmod
    constructor
    · rintro (h | h)
      · exact nmR_inj hk hn h
      · rw [nmR_cl, List.append_assoc, List.cons_append] at h
        have h2 := word_cut 46 (s := cl (rw nme) ++ [46]) (t := 46 :: cl (rw k)) (.inr ⟨_, rfl⟩) (nmC nme) (nmC k) fn.1 fk.1 h
        exact (nmC_inj' nme hn k hk h2.1).symm
    · rintro rfl; exact .inl rfl
theorem dir_iff (hp : ∀ k, 0 < k → k ≤ 10 → p k < k) {d k : Nat} (hd : d ∈ bigs) (hk : k ∈ bigs) : Txt.startswith (pathS (chain p k)) (pathS (chain p d) ++ Str.ofString "/") = true ↔ d ∈ chain p (p k) := by
  obtain ⟨k0, k1⟩ := mem_bigs.mp hk
  obtain ⟨d0, d1⟩ := mem_bigs.mp hd
  have hsl : cl (Str.ofString "/") = [47] := by decide
  have hc : ∀ j, j ≤ 10 → ∀ i ∈ chain p j, i ∈ bigs := fun j hj i hi => by have := chain_pos hp hj hi; exact mem_bigs.mpr (by (first | lia | omega))
  rw [starts_iff, cl_app, hsl, path_cl, path_cl, PC_prefix _ _ (hc d d1) (hc k k1)]
  have hlt := hp k k0 k1
  constructor
  · rintro ⟨y, t, h⟩
    rw [chain_succ hp k0 k1] at h
    have hin : d ∈ chain p d := chain_self hp d0 d1
    rcases List.eq_nil_or_concat t with rfl | ⟨t', z, rfl⟩
    · obtain ⟨h1, _⟩ := List.append_inj' h rfl
      rw [h1]; exact hin
    · rw [List.concat_eq_append, ← List.cons_append, ← List.append_assoc] at h
      obtain ⟨h1, _⟩ := List.append_inj' h rfl
      rw [h1]; exact List.mem_append_left _ hin
  · intro h
    obtain ⟨c, t, e⟩ := List.append_of_mem h
    have h1 := (chain_mid hp (p k) (by (first | lia | omega)) c d t e).1
    rw [chain_succ hp k0 k1, h1, e]
    cases t with
    | nil => exact ⟨k, [], by simp⟩
    | cons y t => exact ⟨y, t ++ [k], by simp⟩
theorem ans_ok (hp : ∀ k, 0 < k → k ≤ 10 → p k < k) (hn : nme ∈ bigs) (hd1 : d1 ∈ bigs) (hd2 : d2 ∈ bigs) (hmod : mod = if wh = true then nmR rw nme else nm nme) {k : Nat} (hk : k ∈ bigs) :
    ansN mod [pathS (chain p d1), pathS (chain p d2)] (some (pathS (chain p k))) (nmR rw k) = anU p nme [(d1 : Int), (d2 : Int)] k := by
  obtain ⟨k0, k1⟩ := mem_bigs.mp hk
  unfold ansN anU ansI
  rw [show (chain p k).dropLast = chain p (p k) by rw [chain_succ hp k0 k1, List.dropLast_concat]]
  have hm := mod_iff (rw := rw) hn hk hmod
  have hA : ([pathS (chain p d1), pathS (chain p d2)].any fun d => Txt.startswith (pathS (chain p k)) (d ++ Str.ofString "/")) = true ↔ (chain p (p k)).any (fun j => [(d1 : Int), (d2 : Int)].any (· == (j : Int))) = true := by
    rw [List.any_eq_true, List.any_eq_true]
    constructor
    · rintro ⟨s, hs, h⟩
      rcases List.mem_cons.mp hs with rfl | hs
      · exact ⟨d1, (dir_iff hp hd1 hk).mp h, by simp⟩
      · rw [List.mem_singleton.mp hs] at h
        exact ⟨d2, (dir_iff hp hd2 hk).mp h, by simp⟩
    · rintro ⟨j, hj, h⟩
      rw [List.any_eq_true] at h
      obtain ⟨i, hi, e⟩ := h
      have e' : i = (j : Int) := eq_of_beq e
      subst e'
      rcases List.mem_cons.mp hi with hi | hi
      · have : j = d1 := by (first | lia | omega)
        subst this
        exact ⟨_, List.mem_cons_self .., (dir_iff hp hd1 hk).mpr hj⟩
      · have hi := List.mem_singleton.mp hi
        have : j = d2 := by (first | lia | omega)
        subst this
        exact ⟨_, List.mem_cons_of_mem _ (List.mem_singleton_self _), (dir_iff hp hd2 hk).mpr hj⟩
  by_cases hkn : k = nme
  · rw [if_pos (hm.mpr hkn), if_pos (.inl (by rw [hkn]; simp))]
  · rw [if_neg fun z => hkn (hm.mp z)]
    dsimp only
    by_cases ha : (chain p (p k)).any (fun j => [(d1 : Int), (d2 : Int)].any (· == (j : Int))) = true
    · rw [if_pos (hA.mpr ha), if_pos (.inr ha)]
    · rw [if_neg fun z => ha (hA.mp z), if_neg]
      rintro (z | z)
      · have := eq_of_beq z; (first | lia | omega)
      · exact ha z
end
theorem band_nat (n b : Nat) : Builtin.bitAnd (n : Int) (b : Int) = ((n &&& b : Nat) : Int) := by
  unfold Builtin.bitAnd
  rw [decide_eq_true (Int.natCast_nonneg n), decide_eq_true (Int.natCast_nonneg b)]
  rfl
theorem and_pow (n e : Nat) : n &&& 2 ^ e = if n / 2 ^ e % 2 = 1 then 2 ^ e else 0 := by
  refine Nat.eq_of_testBit_eq fun i => ?_
  rw [Nat.testBit_and, Nat.testBit_two_pow]
  by_cases hi : e = i
  · subst hi
    rw [Nat.testBit_eq_decide_div_mod_eq]
    by_cases h : n / 2 ^ e % 2 = 1
    · rw [if_pos h, decide_eq_true h, Nat.testBit_two_pow_self]; simp
    · rw [if_neg h, decide_eq_false h, Nat.zero_testBit]; rfl
  · rw [decide_eq_false hi, Bool.and_false]
    by_cases h : n / 2 ^ e % 2 = 1
    · rw [if_pos h, Nat.testBit_two_pow_of_ne hi]
    · rw [if_neg h, Nat.zero_testBit]
theorem and_two (n a b : Nat) : n &&& (2 ^ a ||| 2 ^ b) = (if n / 2 ^ a % 2 = 1 then 2 ^ a else 0) ||| (if n / 2 ^ b % 2 = 1 then 2 ^ b else 0) := by
  rw [Nat.and_or_distrib_left, and_pow, and_pow]
noncomputable def chr1 (c : Nat) : Str := ⟨#[c]⟩
theorem sign1 (m : Int) (i : Nat) (hi : i ≠ 0) (b : Int) (s : Str) : sign m i [(b, s)] = if (Builtin.bitAnd m b == b) = true then s else Str.ofString "-" := by
  unfold sign
  rw [List.find?_cons]
  unfold hit
  rw [if_neg hi]
  cases (Builtin.bitAnd m b == b) with
  | true => rfl
  | false => rw [List.find?_nil]; dsimp only; rw [if_neg hi]; rfl
theorem sign3 (m : Int) (i : Nat) (hi : i ≠ 0) (b1 b2 b3 : Int) (s1 s2 s3 : Str) : sign m i [(b1, s1), (b2, s2), (b3, s3)] = if (Builtin.bitAnd m b1 == b1) = true then s1 else if (Builtin.bitAnd m b2 == b2) = true then s2 else if (Builtin.bitAnd m b3 == b3) = true then s3 else Str.ofString "-" := by
  unfold sign
  rw [List.find?_cons, List.find?_cons, List.find?_cons]
  unfold hit
  simp only [if_neg hi]
  cases (Builtin.bitAnd m b1 == b1) with
  | true => rfl
  | false =>
    cases (Builtin.bitAnd m b2 == b2) with
    | true => rfl
    | false =>
      cases (Builtin.bitAnd m b3 == b3) with
      | true => rfl
      | false => rw [List.find?_nil]; rfl
section
variable {kd r : Nat}
theorem hit1 {n b e : Nat} (hb : b = 2 ^ e) : (Builtin.bitAnd (n : Int) (b : Int) == (b : Int)) = decide (n / b % 2 = 1) := by
  rw [band_nat, hb, and_pow]
  by_cases h : n / 2 ^ e % 2 = 1
  · rw [if_pos h, decide_eq_true h, beq_self_eq_true]
  · rw [if_neg h, decide_eq_false h, beq_eq_false_iff_ne]
    have := Nat.two_pow_pos e
    (first | lia | omega)
theorem hit2 {n b x y a e : Nat} (hb : b = x ||| y) (hx : x = 2 ^ a) (hy : y = 2 ^ e) (n1 : (x ||| y : Nat) ≠ x) (n2 : (x ||| y : Nat) ≠ y) (n3 : (x ||| y : Nat) ≠ 0) : (Builtin.bitAnd (n : Int) (b : Int) == (b : Int)) = decide (n / x % 2 = 1 ∧ n / y % 2 = 1) := by
  rw [band_nat, hb]
  have e1 : n &&& (x ||| y) = (if n / x % 2 = 1 then x else 0) ||| (if n / y % 2 = 1 then y else 0) := by rw [hx, hy]; exact and_two n a e
  rw [e1]
  by_cases h : n / x % 2 = 1
  · by_cases k : n / y % 2 = 1
    · rw [if_pos h, if_pos k, decide_eq_true ⟨h, k⟩, beq_self_eq_true]
    · rw [if_pos h, if_neg k, decide_eq_false fun z => k z.2, beq_eq_false_iff_ne, Nat.or_zero]; (first | lia | omega)
  · rw [if_neg h, decide_eq_false fun z => h z.1, beq_eq_false_iff_ne, Nat.zero_or]
    by_cases k : n / y % 2 = 1
    · rw [if_pos k]; (first | lia | omega)
    · rw [if_neg k]; (first | lia | omega)
theorem fdivN (a b : Nat) : (a : Int).fdiv (b : Int) = ((a / b : Nat) : Int) := by rw [Int.fdiv_eq_ediv_of_nonneg _ (Int.natCast_nonneg _)]; rfl
theorem fmodN (a b : Nat) : (a : Int).fmod (b : Int) = ((a % b : Nat) : Int) := by rw [Int.fmod_eq_emod_of_nonneg _ (Int.natCast_nonneg _)]; rfl
theorem dig0 (r : Nat) : dig r 0 = ((r / 64 % 8 : Nat) : Int) := by unfold dig; rw [show w1 0 = ((64 : Nat) : Int) from rfl, fdivN]; exact fmodN _ 8
theorem dig1 (r : Nat) : dig r 1 = ((r / 8 % 8 : Nat) : Int) := by unfold dig; rw [show w1 1 = ((8 : Nat) : Int) from rfl, fdivN]; exact fmodN _ 8
theorem dig2 (r : Nat) : dig r 2 = ((r / 1 % 8 : Nat) : Int) := by unfold dig; rw [show w1 2 = ((1 : Nat) : Int) from rfl, fdivN]; exact fmodN _ 8
theorem rowA_of {r t d e : Nat} (hd : dig r t = (d : Int)) (h : 3 < d ↔ e = 1) : rowA r t = if e = 1 then Str.ofString "r" else Str.ofString "-" := by
  unfold rowA
  rw [hd]
  by_cases k : e = 1
  · rw [if_pos k, if_pos (decide_eq_true (by have := h.mpr k; (first | lia | omega)))]
  · rw [if_neg k, if_neg (by rw [decide_eq_false (fun z => k (h.mp (by (first | lia | omega))))]; decide)]
theorem rowB_of {r t d e : Nat} (hd : dig r t = (d : Int)) (h : d / 2 % 2 = 1 ↔ e = 1) : rowB r t = if e = 1 then Str.ofString "w" else Str.ofString "-" := by
  unfold rowB
  rw [hd, show (2 : Int) = ((2 : Nat) : Int) from rfl, fdivN, fmodN]
  by_cases k : e = 1
  · rw [if_pos k, if_pos (by rw [h.mpr k]; rfl)]
  · rw [if_neg k, if_neg]
    intro z
    have := eq_of_beq z
    exact k (h.mp (by (first | lia | omega)))
theorem rowC_of {r t d s u : Nat} (hd : dig r t = (d : Int)) (hs : ((r : Int).fdiv (w2 t)).fmod 2 = (s : Int)) (hu : d % 2 = u) (hu2 : u < 2) (hs2 : s < 2) : rowC r t = ⟨#[(w3 t).cps.toList.getD (u + 2 * s) 0]⟩ := by
  unfold rowC
  have : (last r t).toNat = u + 2 * s := by
    unfold last
    rw [hs, hd, show ((2 : Int)) = ((2 : Nat) : Int) from rfl, fmodN]; (first | lia | omega)
  rw [this]
theorem low {kd r x : Nat} (hx : x ∣ 2048) (hr : r < 4096) : (kd * 4096 + r) / x % 2 = r / x % 2 := by
  obtain ⟨y, hy⟩ := hx
  have hx0 : 0 < x := Nat.pos_of_ne_zero fun z => by rw [z, Nat.zero_mul] at hy; cases hy
  have e : kd * 4096 + r = r + x * (2 * (kd * y)) := by
    have : x * (2 * (kd * y)) = kd * (2 * (x * y)) := by
      rw [Nat.mul_left_comm, Nat.mul_left_comm x kd y, Nat.mul_left_comm]
    rw [this, ← hy]; (first | lia | omega)
  rw [e, Nat.add_mul_div_left _ _ hx0]; (first | lia | omega)
theorem rowsC {kd r i t b3 b2 b1 a e d : Nat} {c3 c2 c1 : Str} (hi : i ≠ 0) (hr : r < 4096) (h3 : b3 = b2 ||| b1) (h2 : b2 = 2 ^ a) (h1 : b1 = 2 ^ e) (n1 : (b2 ||| b1 : Nat) ≠ b2) (n2 : (b2 ||| b1 : Nat) ≠ b1) (n3 : (b2 ||| b1 : Nat) ≠ 0) (v2 : b2 ∣ 2048) (v1 : b1 ∣ 2048)
    (hd : dig r t = (d : Int)) (hdu : d % 2 = r / b1 % 2) (hw : w2 t = ((b2 : Nat) : Int))
    (hc : (⟨#[(w3 t).cps.toList.getD 3 0]⟩ : Str) = c3 ∧ (⟨#[(w3 t).cps.toList.getD 2 0]⟩ : Str) = c2 ∧ (⟨#[(w3 t).cps.toList.getD 1 0]⟩ : Str) = c1 ∧ (⟨#[(w3 t).cps.toList.getD 0 0]⟩ : Str) = Str.ofString "-") :
    sign ((kd * 4096 + r : Nat) : Int) i [((b3 : Nat), c3), ((b2 : Nat), c2), ((b1 : Nat), c1)] = rowC r t := by
  rw [sign3 _ _ hi, hit2 h3 h2 h1 n1 n2 n3, hit1 h2, hit1 h1, low v2 hr, low v1 hr]
  have hs : ((r : Int).fdiv (w2 t)).fmod 2 = ((r / b2 % 2 : Nat) : Int) := by rw [hw, fdivN]; exact fmodN _ 2
  rw [rowC_of hd hs hdu (Nat.mod_lt _ (by decide)) (Nat.mod_lt _ (by decide))]
  obtain ⟨q3, q2, q1, q0⟩ := hc
  rcases Nat.mod_two_eq_zero_or_one (r / b2) with z2 | z2 <;> rcases Nat.mod_two_eq_zero_or_one (r / b1) with z1 | z1 <;> rw [z2, z1]
  · exact q0.symm
  · exact q1.symm
  · exact q2.symm
  · exact q3.symm
theorem rowsA {kd r i t b e d : Nat} {c : Str} (hi : i ≠ 0) (hr : r < 4096) (hb : b = 2 ^ e) (v : b ∣ 2048) (hA : rowA r t = if r / b % 2 = 1 then c else Str.ofString "-") : sign ((kd * 4096 + r : Nat) : Int) i [((b : Nat), c)] = rowA r t := by
  rw [sign1 _ _ hi, hit1 hb, low v hr, hA]
  by_cases h : r / b % 2 = 1
  · rw [if_pos h, if_pos (decide_eq_true h)]
  · rw [if_neg h, if_neg (by rw [decide_eq_false h]; decide)]
theorem rowsB {kd r i t b e d : Nat} {c : Str} (hi : i ≠ 0) (hr : r < 4096) (hb : b = 2 ^ e) (v : b ∣ 2048) (hA : rowB r t = if r / b % 2 = 1 then c else Str.ofString "-") : sign ((kd * 4096 + r : Nat) : Int) i [((b : Nat), c)] = rowB r t := by
  rw [sign1 _ _ hi, hit1 hb, low v hr, hA]
  by_cases h : r / b % 2 = 1
  · rw [if_pos h, if_pos (decide_eq_true h)]
  · rw [if_neg h, if_neg (by rw [decide_eq_false h]; decide)]
theorem kind_and {kd r : Nat} (hk : kd = 4 ∨ kd = 8 ∨ kd = 10 ∨ kd = 12) (hr : r < 4096) : Builtin.bitAnd ((kd * 4096 + r : Nat) : Int) 61440 = ((kd * 4096 : Nat) : Int) := by
  rw [show (61440 : Int) = ((61440 : Nat) : Int) from rfl, band_nat]
  have e : (61440 : Nat) = (2 ^ 15 ||| 2 ^ 14) ||| (2 ^ 13 ||| 2 ^ 12) := by decide
  rw [e, Nat.and_or_distrib_left, and_two, and_two]
  congr 1
  rcases hk with rfl | rfl | rfl | rfl
  · rw [if_neg (by (first | lia | omega)), if_pos (by (first | lia | omega)), if_neg (by (first | lia | omega)), if_neg (by (first | lia | omega))]; decide
  · rw [if_pos (by (first | lia | omega)), if_neg (by (first | lia | omega)), if_neg (by (first | lia | omega)), if_neg (by (first | lia | omega))]; decide
  · rw [if_pos (by (first | lia | omega)), if_neg (by (first | lia | omega)), if_pos (by (first | lia | omega)), if_neg (by (first | lia | omega))]; decide
  · rw [if_pos (by (first | lia | omega)), if_pos (by (first | lia | omega)), if_neg (by (first | lia | omega)), if_neg (by (first | lia | omega))]; decide
noncomputable def kindC (kd : Nat) : Str := if kd = 4 then "d" else if kd = 8 then "-" else if kd = 10 then "l" else "s"
theorem sign0 {kd r : Nat} (hk : kd = 4 ∨ kd = 8 ∨ kd = 10 ∨ kd = 12) (hr : r < 4096) : sign ((kd * 4096 + r : Nat) : Int) 0 [(40960, "l"), (49152, "s"), (32768, "-"), (24576, "b"), (16384, "d"), (8192, "c"), (4096, "p")] = kindC kd := by
  unfold sign hit
  simp only [if_true, kind_and hk hr]
  rcases hk with rfl | rfl | rfl | rfl <;> rfl
theorem a8 (r b : Nat) : 3 < r / b % 8 ↔ r / (b * 4) % 2 = 1 := by rw [← Nat.div_div_eq_div_mul]; (first | lia | omega)
theorem b8 (r b : Nat) : r / b % 8 / 2 % 2 = 1 ↔ r / (b * 2) % 2 = 1 := by rw [← Nat.div_div_eq_div_mul]; (first | lia | omega)
theorem c8 (r b : Nat) : r / b % 8 % 2 = r / b % 2 := by (first | lia | omega)
theorem rows_eq {kd r : Nat} (hk : kd = 4 ∨ kd = 8 ∨ kd = 10 ∨ kd = 12) (hr : r < 4096) : tbl.mapIdx (sign ((kd * 4096 + r : Nat) : Int)) = [kindC kd, rowA r 0, rowB r 0, rowC r 0, rowA r 1, rowB r 1, rowC r 1, rowA r 2, rowB r 2, rowC r 2] := by
  have e : tbl.mapIdx (sign ((kd * 4096 + r : Nat) : Int)) = [sign ((kd * 4096 + r : Nat) : Int) 0 [(40960, "l"), (49152, "s"), (32768, "-"), (24576, "b"), (16384, "d"), (8192, "c"), (4096, "p")], sign ((kd * 4096 + r : Nat) : Int) 1 [((256 : Nat), "r")], sign ((kd * 4096 + r : Nat) : Int) 2 [((128 : Nat), "w")], sign ((kd * 4096 + r : Nat) : Int) 3 [((2112 : Nat), "s"), ((2048 : Nat), "S"), ((64 : Nat), "x")],
      sign ((kd * 4096 + r : Nat) : Int) 4 [((32 : Nat), "r")], sign ((kd * 4096 + r : Nat) : Int) 5 [((16 : Nat), "w")], sign ((kd * 4096 + r : Nat) : Int) 6 [((1032 : Nat), "s"), ((1024 : Nat), "S"), ((8 : Nat), "x")], sign ((kd * 4096 + r : Nat) : Int) 7 [((4 : Nat), "r")], sign ((kd * 4096 + r : Nat) : Int) 8 [((2 : Nat), "w")], sign ((kd * 4096 + r : Nat) : Int) 9 [((513 : Nat), "t"), ((512 : Nat), "T"), ((1 : Nat), "x")]] := rfl
  rw [e, sign0 hk hr]
  have a0 := rowsA (kd := kd) (i := 1) (t := 0) (b := 256) (e := 8) (c := "r") (d := 0) (by decide) hr (by decide) (by decide) (rowA_of (dig0 r) (a8 r 64))
  have b0 := rowsB (kd := kd) (i := 2) (t := 0) (b := 128) (e := 7) (c := "w") (d := 0) (by decide) hr (by decide) (by decide) (rowB_of (dig0 r) (b8 r 64))
  have c0 := rowsC (kd := kd) (i := 3) (t := 0) (b3 := 2112) (b2 := 2048) (b1 := 64) (a := 11) (e := 6) (c3 := "s") (c2 := "S") (c1 := "x") (by decide) hr (by decide) (by decide) (by decide) (by decide) (by decide) (by decide) (by decide) (by decide) (dig0 r) (c8 r 64) rfl (by decide)
  have a1 := rowsA (kd := kd) (i := 4) (t := 1) (b := 32) (e := 5) (c := "r") (d := 0) (by decide) hr (by decide) (by decide) (rowA_of (dig1 r) (a8 r 8))
  have b1 := rowsB (kd := kd) (i := 5) (t := 1) (b := 16) (e := 4) (c := "w") (d := 0) (by decide) hr (by decide) (by decide) (rowB_of (dig1 r) (b8 r 8))
  have c1 := rowsC (kd := kd) (i := 6) (t := 1) (b3 := 1032) (b2 := 1024) (b1 := 8) (a := 10) (e := 3) (c3 := "s") (c2 := "S") (c1 := "x") (by decide) hr (by decide) (by decide) (by decide) (by decide) (by decide) (by decide) (by decide) (by decide) (dig1 r) (c8 r 8) rfl (by decide)
  have a2 := rowsA (kd := kd) (i := 7) (t := 2) (b := 4) (e := 2) (c := "r") (d := 0) (by decide) hr (by decide) (by decide) (rowA_of (dig2 r) (a8 r 1))
  have b2 := rowsB (kd := kd) (i := 8) (t := 2) (b := 2) (e := 1) (c := "w") (d := 0) (by decide) hr (by decide) (by decide) (rowB_of (dig2 r) (b8 r 1))
  have c2 := rowsC (kd := kd) (i := 9) (t := 2) (b3 := 513) (b2 := 512) (b1 := 1) (a := 9) (e := 0) (c3 := "t") (c2 := "T") (c1 := "x") (by decide) hr (by decide) (by decide) (by decide) (by decide) (by decide) (by decide) (by decide) (by decide) (dig2 r) (c8 r 1) rfl (by decide)
  rw [a0, b0, c0, a1, b1, c1, a2, b2, c2]
end
theorem sslice3 (x0 x1 x2 x3 x4 x5 x6 x7 x8 x9 : Nat) : sslice ⟨#[x0, x1, x2, x3, x4, x5, x6, x7, x8, x9]⟩ (some 3) none (some 3) = ⟨#[x3, x6, x9]⟩ := by
  have e : Builtin.Str.strSliceIndices (some 3) none 3 10 = [3, 6, 9] := by decide
  show (if ((3 : Int) == 1 && (Builtin.Str.strSliceIndices (some 3) none 3 10).length == 10) = true then (⟨#[x0, x1, x2, x3, x4, x5, x6, x7, x8, x9]⟩ : Str) else ⟨((Builtin.Str.strSliceIndices (some 3) none 3 10).filterMap ((#[x0, x1, x2, x3, x4, x5, x6, x7, x8, x9] : Array Nat)[·]?)).toArray⟩) = _
  rw [e, if_neg (by decide)]
  rfl
noncomputable def isX (c : Nat) : Bool := [Str.ofString "x", Str.ofString "s", Str.ofString "t"].any (· == (⟨#[c]⟩ : Str))
theorem codeA (r : Int) (t : Nat) : ∃ c, rowA r t = ⟨#[c]⟩ ∧ c < 128 := by
  unfold rowA
  split
  · exact ⟨114, by decide, by decide⟩
  · exact ⟨45, by decide, by decide⟩
theorem codeB (r : Int) (t : Nat) : ∃ c, rowB r t = ⟨#[c]⟩ ∧ c < 128 := by
  unfold rowB
  split
  · exact ⟨119, by decide, by decide⟩
  · exact ⟨45, by decide, by decide⟩
theorem codeC {r t d s u : Nat} (ht : t < 3) (hd : dig r t = (d : Int)) (hs : ((r : Int).fdiv (w2 t)).fmod 2 = (s : Int)) (hu : d % 2 = u) (hu2 : u < 2) (hs2 : s < 2) : ∃ c, rowC r t = ⟨#[c]⟩ ∧ c < 128 ∧ isX c = decide (u = 1) := by
  rw [rowC_of hd hs hu hu2 hs2]
  refine ⟨_, rfl, ?_⟩
  have hall : ∀ t : Fin 3, ∀ u : Fin 2, ∀ s : Fin 2, (w3 t).cps.toList.getD (u + 2 * s) 0 < 128 ∧ isX ((w3 t).cps.toList.getD (u + 2 * s) 0) = decide (u.val = 1) := by decide
  exact hall ⟨t, ht⟩ ⟨u, hu2⟩ ⟨s, hs2⟩
theorem codeC' (r : Nat) : (∃ c, rowC r 0 = ⟨#[c]⟩ ∧ c < 128 ∧ isX c = decide (r / 64 % 2 = 1)) ∧ (∃ c, rowC r 1 = ⟨#[c]⟩ ∧ c < 128 ∧ isX c = decide (r / 8 % 2 = 1)) ∧ (∃ c, rowC r 2 = ⟨#[c]⟩ ∧ c < 128 ∧ isX c = decide (r % 2 = 1)) := by
  refine ⟨?_, ?_, ?_⟩
  · exact codeC (by decide) (dig0 r) (s := r / 2048 % 2) (by rw [show w2 0 = ((2048 : Nat) : Int) from rfl, fdivN]; exact fmodN _ 2) (by (first | lia | omega)) (Nat.mod_lt _ (by decide)) (Nat.mod_lt _ (by decide))
  · exact codeC (by decide) (dig1 r) (s := r / 1024 % 2) (by rw [show w2 1 = ((1024 : Nat) : Int) from rfl, fdivN]; exact fmodN _ 2) (by (first | lia | omega)) (Nat.mod_lt _ (by decide)) (Nat.mod_lt _ (by decide))
  · exact codeC (by decide) (dig2 r) (s := r / 512 % 2) (by rw [show w2 2 = ((512 : Nat) : Int) from rfl, fdivN]; exact fmodN _ 2) (by (first | lia | omega)) (Nat.mod_lt _ (by decide)) (Nat.mod_lt _ (by decide))
/-- a mode -/
noncomputable def MK (m : Int) : Prop := ∃ kd r : Nat, m = ((kd * 4096 + r : Nat) : Int) ∧ (kd = 4 ∨ kd = 8 ∨ kd = 10 ∨ kd = 12) ∧ r < 4096
theorem MK.shape {m : Int} (h : MK m) : ∃ kd r : Nat, m = ((kd * 4096 + r : Nat) : Int) ∧ (kd = 4 ∨ kd = 8 ∨ kd = 10 ∨ kd = 12) ∧ r < 4096 ∧ ∃ x0 x1 x2 x3 x4 x5 x6 x7 x8 x9 : Nat, fmode m = ⟨#[x0, x1, x2, x3, x4, x5, x6, x7, x8, x9]⟩ ∧ lrow m (kindC kd) = ⟨#[x0, x1, x2, x3, x4, x5, x6, x7, x8, x9]⟩ ∧
    (x3 < 128 ∧ x6 < 128 ∧ x9 < 128) ∧ isX x3 = decide (r / 64 % 2 = 1) ∧ isX x6 = decide (r / 8 % 2 = 1) ∧ isX x9 = decide (r % 2 = 1) := by
  obtain ⟨kd, r, rfl, hk, hr⟩ := h
  refine ⟨kd, r, rfl, hk, hr, ?_⟩
  obtain ⟨x0, e0⟩ : ∃ c, kindC kd = ⟨#[c]⟩ := by
    rcases hk with rfl | rfl | rfl | rfl
    · exact ⟨100, by decide⟩
    · exact ⟨45, by decide⟩
    · exact ⟨108, by decide⟩
    · exact ⟨115, by decide⟩
  obtain ⟨x1, e1, _⟩ := codeA r 0
  obtain ⟨x2, e2, _⟩ := codeB r 0
  obtain ⟨x4, e4, _⟩ := codeA r 1
  obtain ⟨x5, e5, _⟩ := codeB r 1
  obtain ⟨x7, e7, _⟩ := codeA r 2
  obtain ⟨x8, e8, _⟩ := codeB r 2
  obtain ⟨⟨x3, e3, l3, i3⟩, ⟨x6, e6, l6, i6⟩, ⟨x9, e9, l9, i9⟩⟩ := codeC' r
  refine ⟨x0, x1, x2, x3, x4, x5, x6, x7, x8, x9, ?_, ?_, ⟨l3, l6, l9⟩, i3, i6, i9⟩
  · unfold fmode
    rw [rows_eq hk hr, e0, e1, e2, e3, e4, e5, e6, e7, e8, e9]
    rfl
  · unfold lrow rowStep
    have hm : ((kd * 4096 + r : Nat) : Int).fmod 4096 = (r : Int) := by
      rw [show (4096 : Int) = ((4096 : Nat) : Int) from rfl, fmodN]
      congr 1; (first | lia | omega)
    rw [hm, e0, e1, e2, e3, e4, e5, e6, e7, e8, e9]
    rfl
theorem MK.row {m : Int} (h : MK m) : RowOk m := by
  obtain ⟨kd, r, rfl, hk, hr, x0, x1, x2, x3, x4, x5, x6, x7, x8, x9, h1, h2, _⟩ := h.shape
  refine ⟨kindC kd, ?_, ?_, h2.trans h1.symm⟩
  · rcases hk with rfl | rfl | rfl | rfl <;> rfl
  · have : ((kd * 4096 + r : Nat) : Int).fdiv 4096 = (kd : Int) := by
      rw [show (4096 : Int) = ((4096 : Nat) : Int) from rfl, fdivN]
      congr 1; (first | lia | omega)
    rw [this]
    rcases hk with rfl | rfl | rfl | rfl <;> rfl
theorem MK.len {m : Int} (h : MK m) : (fmode m).length = 10 ∧ (sslice (fmode m) (some 1) none none).length ≤ 1000 ∧ (sslice (fmode m) (some 3) none (some 3)).length ≤ 1000 ∧ (sslice (fmode m) (some 3) none (some 3)).cps.all (· < 128) = true := by
  obtain ⟨kd, r, rfl, hk, hr, x0, x1, x2, x3, x4, x5, x6, x7, x8, x9, h1, _, ⟨l3, l6, l9⟩, _⟩ := h.shape
  rw [h1]
  refine ⟨rfl, ?_, ?_, ?_⟩
  · rw [← cl_len, ss_from1 _ (by show 1 ≤ 10; decide)]; show 9 ≤ 1000; decide
  · rw [sslice3]; show 3 ≤ 1000; decide
  · rw [sslice3]; simp [l3, l6, l9]
theorem MK.ent {m : Int} (h : MK m) : (Builtin.bitAnd m 61440 = 16384 ∧ goB (fmode m) = true) ↔ entersI m = true := by
  obtain ⟨kd, r, rfl, hk, hr, x0, x1, x2, x3, x4, x5, x6, x7, x8, x9, h1, _, _, i3, i6, i9⟩ := h.shape
  have hd : ((kd * 4096 + r : Nat) : Int).fdiv 4096 = (kd : Int) := by
    rw [show (4096 : Int) = ((4096 : Nat) : Int) from rfl, fdivN]
    congr 1; (first | lia | omega)
  have hm : ((kd * 4096 + r : Nat) : Int).fmod 4096 = (r : Int) := by
    rw [show (4096 : Int) = ((4096 : Nat) : Int) from rfl, fmodN]
    congr 1; (first | lia | omega)
  have hg : goB (fmode ((kd * 4096 + r : Nat) : Int)) = (isX x3 || isX x6 || isX x9) := by
    rw [h1]
    unfold goB
    rw [sslice3]
    show (!(([(⟨#[x3]⟩ : Str), ⟨#[x6]⟩, ⟨#[x9]⟩]).filter fun y => [Str.ofString "x", Str.ofString "s", Str.ofString "t"].any (· == y)).isEmpty) = _
    rw [List.filter_cons, List.filter_cons, List.filter_cons, List.filter_nil]
    change (!(if isX x3 = true then (⟨#[x3]⟩ : Str) :: (if isX x6 = true then (⟨#[x6]⟩ : Str) :: (if isX x9 = true then [(⟨#[x9]⟩ : Str)] else []) else if isX x9 = true then [(⟨#[x9]⟩ : Str)] else []) else if isX x6 = true then (⟨#[x6]⟩ : Str) :: (if isX x9 = true then [(⟨#[x9]⟩ : Str)] else []) else if isX x9 = true then [(⟨#[x9]⟩ : Str)] else []).isEmpty) = _
    cases isX x3 <;> cases isX x6 <;> cases isX x9 <;> rfl
  rw [hg, i3, i6, i9, kind_and hk hr]
  unfold entersI
  have d8 : (r : Int).fdiv 8 = ((r / 8 : Nat) : Int) := fdivN r 8
  have d64 : (r : Int).fdiv 64 = ((r / 64 : Nat) : Int) := fdivN r 64
  have m0 : (r : Int).fmod 2 = ((r % 2 : Nat) : Int) := fmodN r 2
  have m8 : ((r / 8 : Nat) : Int).fmod 2 = ((r / 8 % 2 : Nat) : Int) := fmodN _ 2
  have m64 : ((r / 64 : Nat) : Int).fmod 2 = ((r / 64 % 2 : Nat) : Int) := fmodN _ 2
  rw [hd, hm, d8, d64, m0, m8, m64]
  simp only [Bool.or_eq_true, Bool.and_eq_true, decide_eq_true_eq, beq_iff_eq]
  have h4 : ((kd * 4096 : Nat) : Int) = 16384 ↔ (kd : Int) = 4 := by
    rcases hk with rfl | rfl | rfl | rfl <;> decide
  rw [h4]
  refine and_congr_right fun _ => ?_
  rcases Nat.mod_two_eq_zero_or_one (r / 64) with a | a <;> rcases Nat.mod_two_eq_zero_or_one (r / 8) with b | b <;> rcases Nat.mod_two_eq_zero_or_one r with c | c <;> rw [a, b, c] <;> decide
theorem kinds_ok : ∀ i : Fin 8, kinds8.getD i 0 = 4 ∨ kinds8.getD i 0 = 8 ∨ kinds8.getD i 0 = 10 ∨ kinds8.getD i 0 = 12 := by decide
theorem mk_modD (vals : List Int) (k : Nat) : MK (modD vals k) := by
  unfold modD
  generalize (vals.getD (k - 1) 0).fdiv k = q
  have h1 := Int.fmod_nonneg_of_pos q (show (0 : Int) < 8 by decide)
  have h2 := Int.fmod_lt_of_pos q (show (0 : Int) < 8 by decide)
  have h3 := Int.fmod_nonneg_of_pos (q.fdiv 8) (show (0 : Int) < 4096 by decide)
  have h4 := Int.fmod_lt_of_pos (q.fdiv 8) (show (0 : Int) < 4096 by decide)
  have hk := kinds_ok ⟨(q.fmod 8).toNat, by (first | lia | omega)⟩
  dsimp only at hk
  obtain ⟨kd, e, hkd⟩ : ∃ kd : Nat, kinds8.getD (q.fmod 8).toNat 0 = (kd : Int) ∧ (kd = 4 ∨ kd = 8 ∨ kd = 10 ∨ kd = 12) := by
    rcases hk with h | h | h | h
    · exact ⟨4, h, .inl rfl⟩
    · exact ⟨8, h, .inr (.inl rfl)⟩
    · exact ⟨10, h, .inr (.inr (.inl rfl))⟩
    · exact ⟨12, h, .inr (.inr (.inr rfl))⟩
  refine ⟨kd, ((q.fdiv 8).fmod 4096).toNat, ?_, hkd, by (first | lia | omega)⟩
  rw [e, Int.natCast_add, Int.natCast_mul, Int.toNat_of_nonneg h3]; rfl
noncomputable def mdV (vals : List Int) (k : Nat) : Int := if k = 0 then 16384 else modD vals k
theorem mk_mdV (vals : List Int) (k : Nat) : MK (mdV vals k) := by
  unfold mdV
  split
  · exact ⟨4, 0, rfl, .inl rfl, by decide⟩
  · exact mk_modD vals k
theorem parD_lt (vals : List Int) (k : Nat) (h : 0 < k) : parD vals k < k := by
  unfold parD
  have h1 := Int.fmod_nonneg_of_pos (vals.getD (k - 1) 0) (show (0 : Int) < (k : Int) by (first | lia | omega))
  have h2 := Int.fmod_lt_of_pos (vals.getD (k - 1) 0) (show (0 : Int) < (k : Int) by (first | lia | omega))
  (first | lia | omega)
section
variable {G : Gl} {A : Around} {σ : Store} {Q : V → Store → Prop} {K : Frag} {C fI fN : Addr}
theorem one_ten (v : Int) : ∃ n : Nat, 1 + v.fmod 10 = (n : Int) ∧ 0 < n ∧ n ≤ 10 := by
  have h1 := Int.fmod_nonneg_of_pos v (show (0 : Int) < 10 by decide)
  have h2 := Int.fmod_lt_of_pos v (show (0 : Int) < 10 by decide)
  exact ⟨(1 + v.fmod 10).toNat, by (first | lia | omega), by (first | lia | omega), by (first | lia | omega)⟩
theorem law_ (c : GC G K C fI fN) (X : GX G) {ns : List Int} (hz : ns.length ≤ 63) (hr : Room A 20) (q : ∀ σ', Q (.bool true) σ') : FN G A (.ref (G.fn 52)) [.lst (ivs ns)] σ Q := by
  refine FN.fn1 "script" hr ?_
  intro L pm cd doc A' hr'
  conv in bodyOf 52 => whnf
  refine EX.cons (ES.asg (EV.call 41 ?_))
  walk_at "ev"
  refine drawn (hr'.less (by decide)) hz fun vals pa ma σ₁ hv hs hne hpa hma => ?_
  refine AS.tup hr'.hd ?_
  refine AL.cons ?_
  walk_at "ev"
  refine AL.cons ?_
  walk_at "ev"
  refine AL.cons ?_
  walk_at "ev"
  refine AL.cons ?_
  walk_at "ev"
  refine AL.nil ?_
  refine EX.cons (ES.ret (EV.call 51 ?_))
  walk_at "ev"
  refine OP.mod (by decide) ?_
  walk_at "ev"
  refine OP.fdiv (by decide) (by decide) ?_
  walk_at "ev"
  refine OP.mod (by decide) ?_
  walk_at "ev"
  refine OP.mod (by decide) ?_
  walk_at "ev"
  refine OP.fdiv (by decide) (by decide) ?_
  walk_at "ev"
  refine OP.mod (by decide) ?_
  walk_at "ev"
  refine ⟨by show 2 ≤ 1000; decide, fun da hda => ?_⟩
  walk_at "ev"
  obtain ⟨nme, en, n0, n1⟩ := one_ten (vals.getD 10 0)
  obtain ⟨d1, ed1, d10, d11⟩ := one_ten (vals.getD 11 0)
  obtain ⟨d2, ed2, d20, d21⟩ := one_ten ((vals.getD 11 0).fdiv 10)
  rw [en, ed1, ed2]
  have hp : ∀ k, 0 < k → k ≤ 10 → parD vals k < k := fun k h _ => parD_lt vals k h
  have bn := mem_bigs.mpr ⟨n0, n1⟩
  have b1 := mem_bigs.mpr ⟨d10, d11⟩
  have b2 := mem_bigs.mpr ⟨d20, d21⟩
  have hcb : ∀ k, k ≤ 10 → ∀ j ∈ chain (parD vals) k, j ∈ bigs := fun k hk j hj => by have := chain_pos hp hk hj; exact mem_bigs.mpr (by (first | lia | omega))
  have hnm : ∀ k, (nm k).length ≤ 2 := nm_len
  refine holds (p := parD vals) (md := mdV vals) (nme := nme) (d1 := d1) (d2 := d2) (mod := if ((vals.getD 10 0).fdiv 10).fmod 2 == 1 then nmR (fun k => fmode (mdV vals k)) nme else nm nme) c X hp (hr'.less (by decide)) (fun k _ => (mk_mdV vals k).row) rfl n0 n1 ⟨d10, d11⟩ ⟨d20, d21⟩ (Sub.new hda _ _ _ hpa) (Sub.new hda _ _ _ hma) (upd_same _ _ _)
    (fun k _ => by have := (mk_mdV vals k).len; exact ⟨by (first | lia | omega), this.2⟩) (fun k k0 k1 => np_path (hcb k k1) (fun z => by have := chain_self hp k0 k1; rw [z] at this; cases this) (by have := chain_len hp k k1; (first | lia | omega))) rfl ?hml ⟨?ans, anU_01, ?inj, ?nos, ?ent⟩ fun σ' => q σ'
  case hml =>
    split
    · have := (mk_mdV vals nme).len.1
      unfold nmR
      rw [str_len_append, str_len_append, this]
      have := hnm nme
      have : (Str.ofString ".").length = 1 := rfl
      (first | lia | omega)
    · have := hnm nme; (first | lia | omega)
  case ans => exact fun k k0 k1 => ans_ok hp bn b1 b2 rfl (mem_bigs.mpr ⟨k0, k1⟩)
  case inj => exact fun j k j0 j1 k0 k1 h => nmR_inj (mem_bigs.mpr ⟨j0, j1⟩) (mem_bigs.mpr ⟨k0, k1⟩) h
  case nos => exact fun k _ _ => nmR_nos k
  case ent => exact fun k _ _ => (mk_mdV vals k).ent
end
/-- the class's objects after the top -/
noncomputable def cAs : List Addr := [168, 167, 158, 165, 157, 164, 153]
noncomputable def fragH (h : Heap) : Frag := cAs.filterMap fun a => (h.get? a).map fun o => (a, o)
theorem mem_lookup {l : Frag} {a : Addr} {o : Obj} (h : l.lookup a = some o) : (a, o) ∈ l := by
  induction l with
  | nil => cases h
  | cons p l ih =>
    obtain ⟨b, o'⟩ := p
    rw [List.lookup_cons] at h
    cases e : a == b with
    | true => rw [e] at h; cases h; rw [eq_of_beq e]; exact List.mem_cons_self ..
    | false => rw [e] at h; exact List.mem_cons_of_mem _ (ih h)
theorem fragH_in (h : Heap) : (fragH h).In h := by
  intro a o e
  have hm : (a, o) ∈ fragH h := mem_lookup e
  obtain ⟨b, _, hb⟩ := List.mem_filterMap.mp hm
  obtain ⟨o', h1, h2⟩ := Option.map_eq_some_iff.mp hb
  cases h2
  exact h1
noncomputable def kTest (K : Frag) : Bool :=
  makesIn K 168 && findIn K (.ref 168) "__init__" == some (some (.ref 158)) && typeIn K (.ref 158) == some (.type "function") && findIn K (.ref 168) "__setattr__" == some (some (.builtin "object.__setattr__")) && plainOver K 168 && (clsIn K 168).any (·.hasDict) &&
  findIn K (.ref 168) "__getattribute__" == some (some (.builtin "object.__getattribute__")) && findIn K (.ref 168) "__getattr__" == some none && findIn K (.ref 168) "names" == some (some (.ref 165)) && typeIn K (.ref 165) == some (.type "function") &&
  ([Str.ofString "_mods", Str.ofString "_dirs", Str.ofString "_ignore"].all fun x => findIn K (.ref 168) x == some none) && keepIn K (.ref 168) && keepIn K (.ref 165)
noncomputable def tupAt (h : Heap) (v : Value) : Option (Addr × Array Value × Nat) := match v with
  | .ref a => (match h.get? a with
    | some ⟨c, d, .seq xs n, sl⟩ => if c == .type "tuple" && d.isNone && sl.isEmpty then some (a, xs, n) else none
    | _ => none)
  | _ => none
set_option tactic.hygienic true in
theorem tupAt_spec {h : Heap} {v : Value} {a : Addr} {xs : Array Value} {n : Nat} (e : tupAt h v = some (a, xs, n)) : v = .ref a ∧ h.get? a = some { cls := .type "tuple", data := .seq xs n } := by
  unfold tupAt at e
  split at e
  · next b =>
    split at e
    · next c d ys m sl hg =>
      split at e
      · next hc =>
        cases e
        simp only [Bool.and_eq_true, beq_iff_eq, Option.isNone_iff_eq_none, Array.isEmpty_iff] at hc
        obtain ⟨⟨rfl, rfl⟩, rfl⟩ := hc
        exact ⟨rfl, hg⟩
      · cases e
    · cases e
  · cases e
noncomputable def pairOk (h : Heap) (p : Int × Str) (v : Value) : Bool := match tupAt h v with
  | some (_, xs, _) => (match xs.toList with
    | [.int i _, .str s _] => i == p.1 && s == p.2
    | _ => false)
  | none => false
noncomputable def allOk {α : Type} (f : α → Value → Bool) : List α → List Value → Bool
  | [], [] => true
  | a :: l, v :: vs => f a v && allOk f l vs
  | _, _ => false
noncomputable def rowOk (h : Heap) (r : List (Int × Str)) (v : Value) : Bool := match tupAt h v with
  | some (_, xs, _) => allOk (pairOk h) r xs.toList
  | none => false
noncomputable def tblOk (h : Heap) (v : Value) : Bool := match tupAt h v with
  | some (_, xs, _) => allOk (rowOk h) tbl xs.toList
  | none => false
theorem allOk_R {G : Gl} {h : Heap} {α : Type} {f : α → Value → Bool} {g : α → V} (hf : ∀ a v, f a v = true → R G h (g a) v) : ∀ (l : List α) (vs : List Value), allOk f l vs = true → RL G h (l.map g) vs := by
  intro l
  induction l with
  | nil => intro vs e; cases vs with | nil => exact .nil | cons _ _ => cases e
  | cons a l ih =>
    intro vs e
    cases vs with
    | nil => cases e
    | cons v vs =>
      obtain ⟨e1, e2⟩ := Bool.and_eq_true_iff.mp e
      exact .cons (hf a v e1) (ih vs e2)
set_option tactic.hygienic true in
theorem pairOk_R {G : Gl} {h : Heap} (p : Int × Str) (v : Value) (e : pairOk h p v = true) : R G h (pairV p) v := by
  unfold pairOk at e
  split at e
  · next a xs n ht =>
    obtain ⟨rfl, hg⟩ := tupAt_spec ht
    split at e
    · next i t s u hx =>
      simp only [Bool.and_eq_true, beq_iff_eq] at e
      obtain ⟨e1, e2⟩ := e
      refine .tup hg ?_
      rw [hx, ← e1, ← e2]
      exact .cons (.int _ _) (.cons (.str _ _) .nil)
    · cases e
  · cases e
set_option tactic.hygienic true in
theorem rowOk_R {G : Gl} {h : Heap} (r : List (Int × Str)) (v : Value) (e : rowOk h r v = true) : R G h (rowV r) v := by
  unfold rowOk at e
  split at e
  · next a xs n ht =>
    obtain ⟨rfl, hg⟩ := tupAt_spec ht
    exact .tup hg (allOk_R pairOk_R _ _ e)
  · cases e
set_option tactic.hygienic true in
theorem tblOk_R {G : Gl} {h : Heap} (v : Value) (e : tblOk h v = true) : R G h (.tup (tbl.map rowV)) v := by
  unfold tblOk at e
  split at e
  · next a xs n ht =>
    obtain ⟨rfl, hg⟩ := tupAt_spec ht
    exact .tup hg (allOk_R rowOk_R _ _ e)
  · cases e
/-- a function object, but for what it says of itself -/
noncomputable def fnv (h : Heap) (a : Addr) : Option FuncData := match h.get? a with
  | some ⟨_, _, .func fd, _⟩ => some { fd with pyModule := .none, doc := .none }
  | _ => none
set_option tactic.hygienic true in
theorem fnv_spec {h : Heap} {a : Addr} {i : Nat} {nm q : Str} {d cd : Value} (e : fnv h a = some (mfd i nm q d .none cd .none)) : ∃ o pm doc, h.get? a = some o ∧ o.data = .func (mfd i nm q d pm cd doc) := by
  unfold fnv at e
  split at e
  · next c di fd sl hg =>
    refine ⟨_, fd.pyModule, fd.doc, hg, ?_⟩
    injection e with e
    obtain ⟨f1, f2, f3, f4, f5, f6, f7, f8, f9, f10, f11, f12, f13, f14, f15⟩ := fd
    unfold mfd at e ⊢
    cases e
    rfl
  · cases e
structure XPm (mg : Str → Option Value) (h : Heap) : Prop where
  K : ∃ K : Frag, K.In h ∧ kTest K = true
  ig : mg "_Ignore" = some (.ref 168)
  ifdir : ∃ t, mg "S_IFDIR" = some (.int 16384 t)
  sep : ∃ t, mg "sep" = some (.str "/" t)
  table : ∃ y, mg "_filemode_table" = some y ∧ ∀ G : Gl, R G h (.tup (tbl.map rowV)) y
  cI : h.CodeRec (.ref 157) "_Ignore.__init__"
  cN : h.CodeRec (.ref 164) "_Ignore.names"
  T : ∃ o n, h.get? 153 = some o ∧ o.data = .seq #[.none, .none] n
theorem XPm.keeps (mg : Str → Option Value) (h h' : Heap) (x : XPm mg h) (k : ∀ b o, h.get? b = some o → h'.get? b = some o) : XPm mg h' :=
  ⟨let ⟨K, a, b⟩ := x.K; ⟨K, a.keeps k, b⟩, x.ig, x.ifdir, x.sep, let ⟨y, a, b⟩ := x.table; ⟨y, a, fun G => (b G).ext (.of k)⟩, x.cI.keeps k, x.cN.keeps k, let ⟨o, n, a, b⟩ := x.T; ⟨o, n, k _ _ a, b⟩⟩
noncomputable def isInt (v : Option Value) (i : Int) : Bool := match v with | some (.int j _) => j == i | _ => false
noncomputable def isStrV (v : Option Value) (x : Str) : Bool := match v with | some (.str y _) => y == x | _ => false
noncomputable def twoNone (h : Heap) : Bool := match h.get? 153 with | some ⟨_, _, .seq xs _, _⟩ => xs == #[.none, .none] | _ => false
noncomputable def xt (s : Shared) : Bool :=
  kTest (fragH s.heap) && s.heap.nsMap mainGlobals "_Ignore" == some (.ref 168) && isInt (s.heap.nsMap mainGlobals "S_IFDIR") 16384 && isStrV (s.heap.nsMap mainGlobals "sep") "/" &&
  ((s.heap.nsMap mainGlobals "_filemode_table").any (tblOk s.heap)) && s.heap.codeRecOk (.ref 157) "_Ignore.__init__" && s.heap.codeRecOk (.ref 164) "_Ignore.names" && twoNone s.heap
set_option tactic.hygienic true in
theorem xt_of (s : Shared) (e : xt s = true) : XPm (s.heap.nsMap mainGlobals) s.heap := by
  unfold xt at e
  simp only [Bool.and_eq_true, beq_iff_eq] at e
  obtain ⟨⟨⟨⟨⟨⟨⟨e1, e2⟩, e3⟩, e4⟩, e5⟩, e6⟩, e7⟩, e8⟩ := e
  refine ⟨⟨_, fragH_in _, e1⟩, e2, ?_, ?_, ?_, Heap.CodeRec.of_ok e6, Heap.CodeRec.of_ok e7, ?_⟩
  · unfold isInt at e3
    split at e3
    · next j t h => exact ⟨t, by rw [h, eq_of_beq e3]⟩
    · cases e3
  · unfold isStrV at e4
    split at e4
    · next j t h => exact ⟨t, by rw [h, eq_of_beq e4]⟩
    · cases e4
  · obtain ⟨y, h1, h2⟩ := (Option.any_eq_true _ _).mp e5
    exact ⟨y, h1, fun G => tblOk_R y h2⟩
  · unfold twoNone at e8
    split at e8
    · next c d xs n sl h => exact ⟨_, n, h, by rw [eq_of_beq e8]⟩
    · cases e8
/-- the two methods -/
noncomputable def yf (s : Shared) : Option FuncData × Option FuncData := (fnv s.heap 158, fnv s.heap 165)
noncomputable def ya (_ : World) : Option FuncData × Option FuncData := (some (mfd 0 "__init__" "_Ignore.__init__" (.ref 153) .none (.ref 157) .none), some (mfd 1 "names" "_Ignore.names" .none .none (.ref 164) .none))
structure YPm (w : World) (h : Heap) : Prop where
  fI : ∃ o pm doc, h.get? 158 = some o ∧ o.data = .func (mfd 0 "__init__" "_Ignore.__init__" (.ref 153) pm (.ref 157) doc)
  fN : ∃ o pm doc, h.get? 165 = some o ∧ o.data = .func (mfd 1 "names" "_Ignore.names" .none pm (.ref 164) doc)
theorem yp_of (w : World) (s : Shared) (e : yf s = ya w) : YPm w s.heap := by
  obtain ⟨e1, e2⟩ := Prod.mk.inj e
  exact ⟨fnv_spec e1, fnv_spec e2⟩
theorem YPm.keeps (w : World) (h h' : Heap) (x : YPm w h) (k : ∀ b o, h.get? b = some o → h'.get? b = some o) : YPm w h' :=
  ⟨let ⟨o, pm, d, a, b⟩ := x.fI; ⟨o, pm, d, k _ _ a, b⟩, let ⟨o, pm, d, a, b⟩ := x.fN; ⟨o, pm, d, k _ _ a, b⟩⟩
noncomputable def fnL : List Nat := [0, 2, 3, 4, 5, 6, 8, 16, 30, 33, 34, 35, 36, 37, 41, 42, 43, 44, 45, 46, 47, 48, 49, 50, 51, 52]
noncomputable def posOf (k : Nat) : Pos := match pb[k]? with | some (.FunctionDef _ _ _ _ _ _ _ _ _ p) => p | _ => default
noncomputable def recK (k : Nat) : DefRec := ⟨nameOf k, paramsOf k, bodyOf k, scopeOf k, posOf k⟩
noncomputable def qv : Program := view PySem.Challenge.pw_oc0128_01 fnL
noncomputable def looseV : List Str := ["S_IFDIR", "S_IFCHR", "S_IFBLK", "S_IFREG", "S_IFIFO", "S_IFLNK", "S_IFSOCK", "S_ISUID", "S_ISGID", "S_ISVTX", "S_IRUSR", "S_IWUSR", "S_IXUSR", "S_IRGRP", "S_IWGRP", "S_IXGRP", "S_IROTH", "S_IWOTH", "S_IXOTH", "sep", "_filemode_table", "_Ignore"].map Str.ofString
theorem recs_qv : recsOf qv = fnL.map recK := by kernel_rfl
theorem fn_mem {k : Nat} (h : nameOf k ≠ Str.empty) : k ∈ fnL := by
  have hl : pb.length = 53 := by kernel_rfl
  by_cases hk : k < 53
  · have : ∀ k ∈ List.range 53, nameOf k ≠ Str.empty → k ∈ fnL := by decide +kernel
    exact this k (List.mem_range.mpr hk) h
  · exact absurd (by unfold nameOf; rw [List.getElem?_eq_none (by (first | lia | omega))]) h
theorem blt_free : ∀ x ∈ bltNames, x ∉ startupNames ∧ x ∉ looseW qv looseV ∧ x ∉ (recsOf qv).map (·.name) ∧ x ∉ (litsOf qv).map (·.1) ∧ x ∉ (clssOf qv (looseW qv looseV)).map (·.name) := by decide +kernel
theorem hdef : defOf qv (Str.ofString "law") = some (recK 52, []) := by kernel_rfl
theorem kT {K : Frag} (h : kTest K = true) : makesIn K 168 = true ∧ findIn K (.ref 168) "__init__" = some (some (.ref 158)) ∧ typeIn K (.ref 158) = some (.type "function") ∧ findIn K (.ref 168) "__setattr__" = some (some (.builtin "object.__setattr__")) ∧ plainOver K 168 = true ∧ (clsIn K 168).any (·.hasDict) = true ∧
    findIn K (.ref 168) "__getattribute__" = some (some (.builtin "object.__getattribute__")) ∧ findIn K (.ref 168) "__getattr__" = some none ∧ findIn K (.ref 168) "names" = some (some (.ref 165)) ∧ typeIn K (.ref 165) = some (.type "function") ∧
    (∀ x, [Str.ofString "_mods", Str.ofString "_dirs", Str.ofString "_ignore"].contains x = true → findIn K (.ref 168) x = some none) ∧ keepIn K (.ref 168) = true ∧ keepIn K (.ref 165) = true := by
  unfold kTest at h
  simp only [Bool.and_eq_true, beq_iff_eq] at h
  obtain ⟨⟨⟨⟨⟨⟨⟨⟨⟨⟨⟨⟨a1, a2⟩, a3⟩, a4⟩, a5⟩, a6⟩, a7⟩, a8⟩, a9⟩, a10⟩, a11⟩, a12⟩, a13⟩ := h
  refine ⟨a1, a2, a3, a4, a5, a6, a7, a8, a9, a10, fun x hx => ?_, a12, a13⟩
  rw [List.all_eq_true] at a11
  exact beq_iff_eq.mp (a11 x (by simpa using hx))
noncomputable def fnOf (mg : Str → Option Value) (k : Nat) : Addr := match mg (nameOf k) with | some (.ref a) => a | _ => 0
set_option tactic.hygienic true in
theorem enter : WalkO qv looseV XPm YPm PySem.Challenge.rw_oc0128_01.row.toRowW (recK 52) [] fun f vs => PySem.call f vs := by
  intro w s₀ s₁ mg mb Gr Y fa o pm cd doc dV kV ho hd hcd hD hmg hg args vals as hpre hlay hrd hwl hlo
  wrow_args hpre hlay hrd hwl hlo
  rename_i ns _ _ _ _ _ _ _ a xs _ hL _ _ _ hI _ hz _
  have T := Gr.T
  have hfn : ∀ k, nameOf k ≠ Str.empty → mg (nameOf k) = some (.ref (fnOf mg k)) ∧ ∃ pm cd doc, FnAt s₁.heap (fnOf mg k) (Calls.docDef (nameOf k) (paramsOf k) (bodyOf k) (scopeOf k) pm cd doc) := by
    intro k hk
    obtain ⟨b, ob, pm, cd, doc, h1, h2, h3, h4⟩ := T.fn (recK k) (by rw [recs_qv]; exact List.mem_map.mpr ⟨k, fn_mem hk, rfl⟩)
    have h1' : mg (nameOf k) = some (.ref b) := h1
    have e : fnOf mg k = b := by unfold fnOf; rw [h1']
    rw [e]
    exact ⟨h1', pm, cd, doc, ⟨ob, h2, h3⟩, h4⟩
  have hnob : ∀ x, bltNames.contains x = true → mg x = none := fun x hx => by
    obtain ⟨h1, h2, h3, h4, h5⟩ := blt_free x (by simpa using hx)
    exact T.free x h1 h2 h3 h4 h5
  let G : Gl := { prog := PySem.Challenge.pw_oc0128_01, w := w, H := s₁.heap, gens := s₁.gens, os := s₁.os, mg := mg, mb := mb, ga := T.g, bi := T.b, nob := hnob, boot := T.builtins, lim := T.nolimit, dig := T.nodigits, fn := fnOf mg, fnOk := hfn }
  obtain ⟨K, hK, hkt⟩ := Gr.X.K
  obtain ⟨a1, a2, a3, a4, a5, a6, a7, a8, a9, a10, a11, a12, a13⟩ := kT hkt
  have c : GC G K 168 158 165 := ⟨hK, a1, a2, a3, a4, a5, a6, a7, a8, a9, a10, a11, a12, a13, Gr.X.ig,
    (by obtain ⟨oI, pm, doc, h1, h2⟩ := Y.fI; obtain ⟨oT, n, h3, h4⟩ := Gr.X.T; exact ⟨153, pm, .ref 157, doc, oT, n, ⟨⟨oI, h1, h2⟩, Gr.X.cI⟩, h3, h4⟩),
    (by obtain ⟨oI, pm, doc, h1, h2⟩ := Y.fN; exact ⟨pm, .ref 164, doc, ⟨oI, h1, h2⟩, Gr.X.cN⟩)⟩
  have X : GX G := ⟨Gr.X.ifdir, Gr.X.sep, let ⟨y, h1, h2⟩ := Gr.X.table; ⟨y, h1, h2 G⟩⟩
  have hroom : Room callerA 20 := ⟨rfl, by decide, by decide⟩
  have hz' : ns.length ≤ 63 := by (first | lia | omega)
  have hlaw := law_ (G := G) (A := callerA) (σ := fun _ => none) (Q := fun v _ => v = .bool true) c X hz' hroom (fun _ => rfl)
  have hfa : G.fn 52 = fa := by
    show fnOf mg 52 = fa
    unfold fnOf
    have : mg (nameOf 52) = some (.ref fa) := hmg
    rw [this]
  rw [hfa] at hlaw
  obtain ⟨ol, hol, hcl, nl, hdl⟩ := hL
  have sg : Sg G (fun a o => s₁.heap.get? a = some o) (fun _ => none) s₁ := ⟨rfl, rfl, fun a o h => h, fun a o h => h, fun a o h => (nomatch h), fun a o h => (nomatch h)⟩
  have hrl : RL G s₁.heap (ivs ns) xs.toArray.toList := by
    have : ∀ (xs : List Value) (ns : List Int), IntsAre xs ns → RL G s₁.heap (ivs ns) xs := by
      intro xs ns h
      induction h with
      | nil => exact .nil
      | cons n t _ ih => exact .cons (.int n t) ih
    exact this xs ns hI
  refine wpAny_mono (hlaw _ s₁ [.ref a] _ sg (.cons (.lst hol hol ⟨hcl, hdl⟩ hrl) .nil)) (fun v s' h => ?_) fun _ _ x => x
  obtain ⟨_, v', σ', sg', r', rfl⟩ := h
  cases r'
  refine GoodW.toG ⟨.inl ⟨_, .bool true, [], rfl, fun _ => rfl, .bool _, by wrow_post, fun _ => ⟨List.nodup_nil, fun _ h => (nomatch h)⟩⟩, fun b o h => sg'.hs.kept _ _ (sg'.hs.base _ _ h), sg'.os, sg'.gens.trans hg⟩
theorem left : LeftO PySem.Challenge.pw_oc0128_01 qv looseV (fun s => xt s && recOk [] s) yf ya 2998 := by
  intro w
  kernel_rfl
theorem head (said : PySem.Challenge.rw_oc0128_01.row.wellSaid = true) : PySem.Challenge.rw_oc0128_01.row.Holds :=
  holds_open (r := PySem.Challenge.rw_oc0128_01.row) (q := qv) (loose := looseV) (Xt := fun s => xt s && recOk [] s) (XP := XPm) (Yf := yf) (Ya := ya) (YP := YPm) (d := recK 52) (kwd := []) (N := 2998)
    left yp_of YPm.keeps (fun s e => xt_of s (Bool.and_eq_true_iff.mp e).1) XPm.keeps hdef (by kernel_rfl) (by kernel_rfl) (fun s e => recFacts_of (Bool.and_eq_true_iff.mp e).2) (by kernel_rfl) said (by decide +kernel) ⟨rfl, rfl, rfl, rfl, rfl, by decide +kernel⟩ ⟨[.list []], by decide +kernel, by decide +kernel⟩ enter
end Mine
set_option maxRecDepth 100000 in
set_option maxHeartbeats 8000000 in
theorem PySem.Challenge.cw_oc0128_01_holds : PySem.Challenge.rw_oc0128_01.Holds := by
  refine holds_law (by kernel_rfl) fun said => ?_
  exact Mine.head said
