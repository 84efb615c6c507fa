import PyProof.Rows.All
import Wide.All
import OpenK.AllK
import Wide.FinOn
import PyProof.FString5
import PyProof.NeKinds
import PyProof.ListCopy
import PyProof.NsDelKeeps
import PyProof.ReprRoads
import KE.KFmtOwn
import KE.KIntText
import PySem.Challenge.RW_dm0214_01
set_option Elab.async false
set_option maxRecDepth 100000
set_option maxHeartbeats 8000000
set_option linter.unusedVariables false
set_option linter.unusedSimpArgs false
namespace Mine
open PySem PySem.W PyProof.Rows

inductive V where
  | none
  | bool (b : Bool)
  | int (i : Int)
  | str (l : List Nat)
  | bi (id : String)
  | ty (n : String)
  | top (a : Addr)
  | ref (i : Nat)
  | tup (vs : List V)
  | meth (f self : V)

noncomputable abbrev tupObj (xs : Array Value) (n : Nat) : Obj := { cls := .type "tuple", data := .seq xs n }

mutual
inductive VR (ρ : List Addr) (h : Heap) : V → Value → Prop
  | none : VR ρ h .none .none
  | bool (b : Bool) : VR ρ h (.bool b) (.bool b)
  | int (i : Int) (t : Tok) : VR ρ h (.int i) (.int i t)
  | str {l : List Nat} {x : Str} (t : Tok) : x.cps.toList = l → VR ρ h (.str l) (.str x t)
  | bi (id : String) : VR ρ h (.bi id) (.builtin id)
  | ty (n : String) : VR ρ h (.ty n) (.type n)
  | top (a : Addr) : VR ρ h (.top a) (.ref a)
  | ref {i : Nat} {a : Addr} : ρ[i]? = some a → VR ρ h (.ref i) (.ref a)
  | tup {a : Addr} {vs : List V} {xs : List Value} {n : Nat} : h.get? a = some (tupObj xs.toArray n) → VRs ρ h vs xs → VR ρ h (.tup vs) (.ref a)
  | meth {a : Addr} {f self : V} {f' self' : Value} : h.get? a = some (methodObj f' self') → VR ρ h f f' → VR ρ h self self' → VR ρ h (.meth f self) (.ref a)
inductive VRs (ρ : List Addr) (h : Heap) : List V → List Value → Prop
  | nil : VRs ρ h [] []
  | cons {v : V} {x : Value} {vs : List V} {xs : List Value} : VR ρ h v x → VRs ρ h vs xs → VRs ρ h (v :: vs) (x :: xs)
end

theorem VR.refC {ρ : List Addr} {h : Heap} {i : Nat} {motive : ∀ x : Value, VR ρ h (.ref i) x → Prop} (ref : ∀ {a : Addr} (ha : ρ[i]? = some a), motive (.ref a) (.ref ha)) {x : Value} (v : VR ρ h (.ref i) x) : motive x v := by cases v; exact ref ‹_›
theorem VR.intC {ρ : List Addr} {h : Heap} {i : Int} {motive : ∀ x : Value, VR ρ h (.int i) x → Prop} (int : ∀ t : Tok, motive (.int i t) (.int i t)) {x : Value} (v : VR ρ h (.int i) x) : motive x v := by cases v; exact int _
theorem VR.strC {ρ : List Addr} {h : Heap} {l : List Nat} {motive : ∀ x : Value, VR ρ h (.str l) x → Prop} (str : ∀ {y : Str} (t : Tok) (e : y.cps.toList = l), motive (.str y t) (.str t e)) {x : Value} (v : VR ρ h (.str l) x) : motive x v := by cases v; exact str _ ‹_›
theorem VR.boolC {ρ : List Addr} {h : Heap} {b : Bool} {motive : ∀ x : Value, VR ρ h (.bool b) x → Prop} (bool : motive (.bool b) (.bool b)) {x : Value} (v : VR ρ h (.bool b) x) : motive x v := by cases v; exact bool
theorem VR.noneC {ρ : List Addr} {h : Heap} {motive : ∀ x : Value, VR ρ h .none x → Prop} (none : motive .none .none) {x : Value} (v : VR ρ h .none x) : motive x v := by cases v; exact none
theorem VR.topC {ρ : List Addr} {h : Heap} {a : Addr} {motive : ∀ x : Value, VR ρ h (.top a) x → Prop} (top : motive (.ref a) (.top a)) {x : Value} (v : VR ρ h (.top a) x) : motive x v := by cases v; exact top
theorem VR.tupC {ρ : List Addr} {h : Heap} {vs : List V} {motive : ∀ x : Value, VR ρ h (.tup vs) x → Prop} (tup : ∀ {a : Addr} {xs : List Value} {n : Nat} (e : h.get? a = some (tupObj xs.toArray n)) (r : VRs ρ h vs xs), motive (.ref a) (.tup e r)) {x : Value} (v : VR ρ h (.tup vs) x) : motive x v := by cases v; exact tup ‹_› ‹_›
theorem VRs.consC {ρ : List Addr} {h : Heap} {v : V} {vs : List V} {motive : ∀ xs : List Value, VRs ρ h (v :: vs) xs → Prop} (cons : ∀ {x : Value} {xs : List Value} (v1 : VR ρ h v x) (v2 : VRs ρ h vs xs), motive (x :: xs) (.cons v1 v2)) {xs : List Value} (w : VRs ρ h (v :: vs) xs) : motive xs w := by cases w; exact cons ‹_› ‹_›
theorem VRs.nilC {ρ : List Addr} {h : Heap} {motive : ∀ xs : List Value, VRs ρ h [] xs → Prop} (nil : motive [] .nil) {xs : List Value} (w : VRs ρ h [] xs) : motive xs w := by cases w; exact nil

noncomputable def Fix (o : Obj) : Prop := (∃ xs n, o = tupObj xs n) ∨ (∃ f self, o = methodObj f self) ∨ (o.cls = .type "code" ∧ ∃ vs, o.data = .fields vs)
noncomputable def ImmKeep (h h' : Heap) : Prop := ∀ a o, Fix o → h.get? a = some o → h'.get? a = some o
theorem pre_get {ρ ρ' : List Addr} (p : ρ <+: ρ') {i : Nat} {a : Addr} (e : ρ[i]? = some a) : ρ'[i]? = some a := by
  obtain ⟨t, rfl⟩ := p
  rw [List.getElem?_append_left (List.getElem?_eq_some_iff.mp e).1]; exact e

mutual
theorem VR.mono {ρ ρ' : List Addr} {h h' : Heap} (p : ρ <+: ρ') (k : ImmKeep h h') : ∀ {v : V} {x : Value}, VR ρ h v x → VR ρ' h' v x
  | _, _, .none => .none
  | _, _, .bool b => .bool b
  | _, _, .int i t => .int i t
  | _, _, .str t e => .str t e
  | _, _, .bi i => .bi i
  | _, _, .ty i => .ty i
  | _, _, .top i => .top i
  | _, _, .ref e => .ref (pre_get p e)
  | _, _, .tup e r => .tup (k _ _ (.inl ⟨_, _, rfl⟩) e) (VRs.mono p k r)
  | _, _, .meth e r1 r2 => .meth (k _ _ (.inr (.inl ⟨_, _, rfl⟩)) e) (VR.mono p k r1) (VR.mono p k r2)
theorem VRs.mono {ρ ρ' : List Addr} {h h' : Heap} (p : ρ <+: ρ') (k : ImmKeep h h') : ∀ {v : List V} {x : List Value}, VRs ρ h v x → VRs ρ' h' v x
  | _, _, .nil => .nil
  | _, _, .cons r1 r2 => .cons (VR.mono p k r1) (VRs.mono p k r2)
end

theorem VRs.length {ρ : List Addr} {h : Heap} : ∀ {v : List V} {x : List Value}, VRs ρ h v x → v.length = x.length
  | _, _, .nil => rfl
  | _, _, .cons _ r => congrArg (· + 1) r.length
theorem VRs.append {ρ : List Addr} {h : Heap} : ∀ {v : List V} {x : List Value} {v' : List V} {x' : List Value}, VRs ρ h v x → VRs ρ h v' x' → VRs ρ h (v ++ v') (x ++ x')
  | _, _, _, _, .nil, r => r
  | _, _, _, _, .cons a b, r => .cons a (b.append r)
theorem VRs.get {ρ : List Addr} {h : Heap} : ∀ {v : List V} {x : List Value}, VRs ρ h v x → ∀ {i : Nat} {u : V}, v[i]? = some u → ∃ y, x[i]? = some y ∧ VR ρ h u y
  | _, _, .cons a _, 0, _, e => by cases e; exact ⟨_, rfl, a⟩
  | _, _, .cons _ b, i + 1, u, e => by simpa using VRs.get b (i := i) (by simpa using e)
theorem VRs.set {ρ : List Addr} {h : Heap} : ∀ {v : List V} {x : List Value}, VRs ρ h v x → ∀ {i : Nat} {u : V} {y : Value}, VR ρ h u y → VRs ρ h (v.set i u) (x.set i y)
  | _, _, .nil, _, _, _, _ => .nil
  | _, _, .cons _ b, 0, _, _, r => .cons r b
  | _, _, .cons a b, _ + 1, _, _, r => .cons a (b.set r)
structure FnLit where
  name : Str
  qual : Str
  params : Arguments
  body : List Stmt
  scope : Scope

inductive O where
  | list (vs : List V)
  | ns (kvs : List (Str × V))
  | inst (C : Addr) (d : Nat)
  | cell (v : Option V)
  | fn (f : FnLit) (cl : List (Str × Nat))
  | citer (st : Option (V × V))
  | tab (P : Addr) (i : Nat) (c : List (Pos × Str))
  | rng (a b st : Int)
  | di (i : Nat) (prog : Program) (w : World) (kvs : List (Int × V))
  | ds (i : Nat) (prog : Program) (w : World) (kvs : List (Str × V))
  | view (d : Nat)
  | exc (C : Addr) (d : Option Nat) (args : V) (raised : Bool)

noncomputable def NsR (ρ : List Addr) (h : Heap) : List (Str × V) → List DictEntry → Prop
  | [], [] => True
  | (n, v) :: r, e :: es => (∃ t, e.key = .str n t) ∧ VR ρ h v e.val ∧ NsR ρ h r es
  | _, _ => False
noncomputable def ClR (ρ : List Addr) : List (Str × Nat) → List (Str × Addr) → Prop
  | [], [] => True
  | (n, i) :: r, (m, a) :: es => n = m ∧ ρ[i]? = some a ∧ ClR ρ r es
  | _, _ => False
theorem NsR.mono {ρ ρ' : List Addr} {h h' : Heap} (p : ρ <+: ρ') (k : ImmKeep h h') : ∀ {v : List (Str × V)} {x : List DictEntry}, NsR ρ h v x → NsR ρ' h' v x
  | [], [], _ => trivial
  | (_, _) :: _, _ :: _, r => ⟨r.1, r.2.1.mono p k, NsR.mono p k r.2.2⟩
  | (_, _) :: _, [], r => r.elim
  | [], _ :: _, r => r.elim
theorem ClR.mono {ρ ρ' : List Addr} (p : ρ <+: ρ') : ∀ {v : List (Str × Nat)} {x : List (Str × Addr)}, ClR ρ v x → ClR ρ' v x
  | [], [], _ => trivial
  | (_, _) :: _, (_, _) :: _, r => ⟨r.1, pre_get p r.2.1, ClR.mono p r.2.2⟩
  | (_, _) :: _, [], r => r.elim
  | [], _ :: _, r => r.elim
noncomputable def PR {K : Type} (ρ : List Addr) (h : Heap) : List (K × V) → List (K × Value) → Prop
  | [], [] => True
  | (k, v) :: r, (k', x) :: xs => k = k' ∧ VR ρ h v x ∧ PR ρ h r xs
  | _, _ => False
theorem PR.mono {K : Type} {ρ ρ' : List Addr} {h h' : Heap} (p : ρ <+: ρ') (k : ImmKeep h h') : ∀ {v : List (K × V)} {x : List (K × Value)}, PR ρ h v x → PR ρ' h' v x
  | [], [], _ => trivial
  | (_, _) :: _, (_, _) :: _, r => ⟨r.1, r.2.1.mono p k, PR.mono p k r.2.2⟩
  | (_, _) :: _, [], r => r.elim
  | [], _ :: _, r => r.elim
noncomputable abbrev excObj (C : Addr) (dd : Option Addr) (vs : Array Value) : Obj := { cls := .ref C, dict := dd, data := .fields vs }
noncomputable def DictR (ρ : List Addr) : Option Nat → Option Addr → Prop
  | some i, some a => ρ[i]? = some a
  | none, none => True
  | _, _ => False
theorem DictR.mono {ρ ρ' : List Addr} (p : ρ <+: ρ') : ∀ {d : Option Nat} {dd : Option Addr}, DictR ρ d dd → DictR ρ' d dd
  | some _, some _, e => pre_get p e
  | none, none, _ => trivial
  | some _, none, e => e.elim
  | none, some _, e => e.elim
noncomputable abbrev viewObj (a : Addr) : Obj := { cls := .type "dict_items", data := .fields #[.ref a] }
theorem ClR.look {ρ : List Addr} : ∀ {v : List (Str × Nat)} {x : List (Str × Addr)}, ClR ρ v x → ∀ {n : Str} {i : Nat}, v.lookup n = some i → ∃ a, x.lookup n = some a ∧ ρ[i]? = some a
  | [], [], _, _, _, e => by cases e
  | (k, j) :: v, (k', a) :: x, r, n, i, e => by
    obtain ⟨rfl, h1, h2⟩ := r
    rw [List.lookup_cons] at e ⊢
    cases hb : n == k with
    | true => rw [hb] at e; cases e; exact ⟨a, rfl, h1⟩
    | false => rw [hb] at e; exact h2.look e
  | (_, _) :: _, [], r, _, _, _ => r.elim
  | [], _ :: _, r, _, _, _ => r.elim

noncomputable abbrev listObj (xs : Array Value) (n : Nat) : Obj := { cls := .type "list", data := .seq xs n }
noncomputable abbrev rngObj (a b st : Int) (t u v : Tok) : Obj := { cls := .type "range", data := .fields #[.int a t, .int b u, .int st v] }
noncomputable abbrev citObj (vs : Array Value) : Obj := { cls := .type "callable_iterator", data := .fields vs }

noncomputable def CodeR (h : Heap) (c : Addr) (q : Str) : Prop := ∃ oc vs t, h.get? c = some oc ∧ oc.cls = .type "code" ∧ oc.data = .fields vs ∧ vs[1]? = some (.str q t)
theorem CodeR.mono {h h' : Heap} {c : Addr} {q : Str} (k : ImmKeep h h') : CodeR h c q → CodeR h' c q
  | ⟨oc, vs, t, e, h1, h2, h3⟩ => ⟨oc, vs, t, k _ _ (.inr (.inr ⟨h1, vs, h2⟩)) e, h1, h2, h3⟩
noncomputable def TabR (h : Heap) : List (Pos × Str) → List Value → Prop
  | [], l => l = []
  | (p, q) :: r, l => ∃ c rest, l = rawInt p.line :: rawInt p.col :: .ref c :: rest ∧ CodeR h c q ∧ TabR h r rest
theorem TabR.mono {h h' : Heap} (k : ImmKeep h h') : ∀ {p : List (Pos × Str)} {l : List Value}, TabR h p l → TabR h' p l
  | [], _, e => e
  | (_, _) :: _, _, ⟨c, rest, e, a, b⟩ => ⟨c, rest, e, a.mono k, b.mono k⟩
noncomputable def OR (ρ : List Addr) (h : Heap) : O → Obj → Prop
  | .list vs, o => ∃ xs n, o = listObj (List.toArray xs) n ∧ VRs ρ h vs xs
  | .ns kvs, o => ∃ es n, o = dictOf es n ∧ NsR ρ h kvs es
  | .inst C d, o => ∃ dx, ρ[d]? = some dx ∧ o = instObj C dx
  | .cell v, o => ∃ x, o.data = .cell x ∧ (match v, x with | some v, some x => VR ρ h v x | none, none => True | _, _ => False)
  | .fn f cl, o => ∃ clos doc pm c ctv, o = { cls := .type "function", data := .func (fnX f.name f.qual f.params f.body f.scope clos .none .none doc pm none (.ref c) ctv) } ∧ ClR ρ cl clos ∧
      CodeR h c f.qual
  | .citer st, o => ∃ x y b, o = citObj #[x, y, .bool b] ∧ (match st with | some (u, v) => b = false ∧ VR ρ h u x ∧ VR ρ h v y | none => b = true)
  | .tab P i p, o => ∃ ps, ρ[i]? = some P ∧ o = tabObj ps ∧ TriplesOk ps.toList ∧ TabR h p ps.toList
  | .rng a b st, o => ∃ t u v, o = rngObj a b st t u v
  | .di i prog w kvs, o => ∃ a xs, ρ[i]? = some a ∧ (a == sysModules) = false ∧ o.IsDictOf (intKind prog w) xs ∧ PR ρ h kvs xs
  | .ds i prog w kvs, o => ∃ a xs, ρ[i]? = some a ∧ (a == sysModules) = false ∧ o.IsDictOf (PySem.strKind prog w) xs ∧ PR ρ h kvs xs
  | .view d, o => ∃ a, ρ[d]? = some a ∧ o = viewObj a
  | .exc C d args b, o => ∃ dd x f1 f2 f3 f4 f5, o = excObj C dd #[x, f1, f2, f3, f4, f5] ∧ VR ρ h args x ∧ DictR ρ d dd ∧ (b = false → f1 = .none ∧ f2 = .none ∧ f3 = .none ∧ f4 = .bool false ∧ f5 = .none)

theorem OR.mono {ρ ρ' : List Addr} {h h' : Heap} (p : ρ <+: ρ') (k : ImmKeep h h') {o : O} {r : Obj} (x : OR ρ h o r) : OR ρ' h' o r := by
  cases o with
  | list vs => obtain ⟨xs, n, e, y⟩ := x; exact ⟨xs, n, e, y.mono p k⟩
  | ns kvs => obtain ⟨es, n, e, y⟩ := x; exact ⟨es, n, e, y.mono p k⟩
  | inst C d => obtain ⟨dx, e, y⟩ := x; exact ⟨dx, pre_get p e, y⟩
  | cell v =>
    obtain ⟨x, e, y⟩ := x
    refine ⟨x, e, ?_⟩
    cases v <;> cases x <;> first | exact y | exact y.mono p k
  | fn f cl => obtain ⟨clos, doc, pm, c, ctv, e, y, z⟩ := x; exact ⟨clos, doc, pm, c, ctv, e, y.mono p, z.mono k⟩
  | citer st =>
    obtain ⟨x, y, b, e, z⟩ := x
    refine ⟨x, y, b, e, ?_⟩
    cases st with
    | none => exact z
    | some uv => exact ⟨z.1, z.2.1.mono p k, z.2.2.mono p k⟩
  | tab P i q =>
    obtain ⟨ps, e0, e, t, z⟩ := x
    exact ⟨ps, pre_get p e0, e, t, z.mono k⟩
  | rng a b st => exact x
  | di i prog w kvs => obtain ⟨a, xs, e1, e2, e3, y⟩ := x; exact ⟨a, xs, pre_get p e1, e2, e3, y.mono p k⟩
  | ds i prog w kvs => obtain ⟨a, xs, e1, e2, e3, y⟩ := x; exact ⟨a, xs, pre_get p e1, e2, e3, y.mono p k⟩
  | view d => obtain ⟨a, e1, e2⟩ := x; exact ⟨a, pre_get p e1, e2⟩
  | exc C d args b => obtain ⟨dd, x, f1, f2, f3, f4, f5, e1, e2, e3, e4⟩ := x; exact ⟨dd, x, f1, f2, f3, f4, f5, e1, e2.mono p k, e3.mono p, e4⟩
theorem OR.notFix {ρ : List Addr} {h : Heap} {o : O} {r : Obj} (x : OR ρ h o r) : ¬ Fix r := by
  intro f
  cases o <;> simp only [OR] at x
  case list => obtain ⟨xs, n, rfl, _⟩ := x; rcases f with ⟨_, _, e⟩ | ⟨_, _, e⟩ | ⟨e, _⟩ <;> simp [listObj, tupObj, methodObj] at e
  case ns => obtain ⟨xs, n, rfl, _⟩ := x; rcases f with ⟨_, _, e⟩ | ⟨_, _, e⟩ | ⟨e, _⟩ <;> simp [dictOf, tupObj, methodObj] at e
  case inst => obtain ⟨dx, _, rfl⟩ := x; rcases f with ⟨_, _, e⟩ | ⟨_, _, e⟩ | ⟨e, _⟩ <;> simp [instObj, tupObj, methodObj] at e
  case cell =>
    obtain ⟨y, e, _⟩ := x
    rcases f with ⟨_, _, rfl⟩ | ⟨_, _, rfl⟩ | ⟨_, vs, e'⟩
    · cases e
    · cases e
    · rw [e'] at e; cases e
  case fn => obtain ⟨_, _, _, _, _, rfl, _⟩ := x; rcases f with ⟨_, _, e⟩ | ⟨_, _, e⟩ | ⟨e, _⟩ <;> simp [tupObj, methodObj] at e
  case citer => obtain ⟨_, _, _, rfl, _⟩ := x; rcases f with ⟨_, _, e⟩ | ⟨_, _, e⟩ | ⟨e, _⟩ <;> simp [tupObj, methodObj, citObj] at e
  case rng => obtain ⟨_, _, _, rfl⟩ := x; rcases f with ⟨_, _, e⟩ | ⟨_, _, e⟩ | ⟨e, _⟩ <;> simp [tupObj, methodObj, rngObj] at e
  case di => obtain ⟨_, _, _, _, ⟨_, _, hd, _⟩, _⟩ := x; rcases f with ⟨_, _, e⟩ | ⟨_, _, e⟩ | ⟨e, _⟩ <;> (have q := hd.1; rw [e] at q; simp [tupObj, methodObj] at q)
  case ds => obtain ⟨_, _, _, _, ⟨_, _, hd, _⟩, _⟩ := x; rcases f with ⟨_, _, e⟩ | ⟨_, _, e⟩ | ⟨e, _⟩ <;> (have q := hd.1; rw [e] at q; simp [tupObj, methodObj] at q)
  case view => obtain ⟨_, _, rfl⟩ := x; rcases f with ⟨_, _, e⟩ | ⟨_, _, e⟩ | ⟨e, _⟩ <;> simp [tupObj, methodObj, viewObj] at e
  case exc => obtain ⟨_, _, _, _, _, _, _, rfl, _⟩ := x; rcases f with ⟨_, _, e⟩ | ⟨_, _, e⟩ | ⟨e, _⟩ <;> simp [tupObj, methodObj, excObj] at e
  case tab => obtain ⟨_, _, rfl, _⟩ := x; rcases f with ⟨_, _, e⟩ | ⟨_, _, e⟩ | ⟨e, _⟩ <;> simp [tupObj, methodObj, tabObj] at e

structure Cx where
  prog : Program
  w : World
  K : Frag
  H₀ : Heap
  p : Program
  loose : List Str
  mg : Str → Option Value
  mb : Str → Option Value
  g₀ : Array GenState
  os₀ : OsState
  A₀ : Around
  top : Env
  hd : Option Addr := none
noncomputable abbrev Cx.M (c : Cx) : Model := model c.prog c.w
structure Cx.Ok (c : Cx) : Prop where
  k : c.K.In c.H₀
  t : TopRead c.p c.loose c.mg c.mb c.H₀
  bm : ∃ bm ob, c.mg "__builtins__" = some (.ref bm) ∧ bm ≠ builtinsNs ∧ c.H₀.get? bm = some ob ∧ ob.cls = .type "module" ∧ ob.dict = some builtinsNs ∧ ob.data = .plain

structure St where
  loc : List (Str × V)
  hp : List O

structure Fx where
  env : Env
  cl : List (Str × Nat)
  ρ₀ : List Addr

noncomputable def Keep (S : List Addr) (h h' : Heap) : Prop := ∀ b o, b ∉ S → h.get? b = some o → h'.get? b = some o

noncomputable def CtxNone (o : Obj) : Prop := ∃ vs, o.data = .fields vs ∧ vs[2]? = some .none
structure HRel (c : Cx) (ρ : List Addr) (hp : List O) (h : Heap) : Prop where
  keep : ∀ b o, c.H₀.get? b = some o → h.get? b = some o
  len : ρ.length = hp.length
  nodup : ρ.Nodup
  fresh : ∀ a ∈ ρ, c.H₀.get? a = none
  obj : ∀ (i : Nat) (a : Addr) (o : O), ρ[i]? = some a → hp[i]? = some o → ∃ r, h.get? a = some r ∧ OR ρ h o r
  held : ∀ a, c.hd = some a → a ∈ ρ ∧ ∃ o, h.get? a = some o ∧ CtxNone o

structure Rel (c : Cx) (fx : Fx) (ρ : List Addr) (σ : St) (h : Heap) : Prop extends HRel c ρ σ.hp h where
  ok : c.Ok
  loc : ∃ m, h.Ns fx.env.locals m ∧ ∀ x v, σ.loc.lookup x = some v → ∃ u, m x = some u ∧ VR ρ h v u
  lfresh : c.H₀.get? fx.env.locals = none
  lapart : fx.env.locals ∉ ρ
  pre : fx.ρ₀ <+: ρ
  glob : fx.env.globals = mainGlobals
  bltn : fx.env.builtins = builtinsNs
  kind : fx.env.scope.kind = .function
  cells : ClR fx.ρ₀ fx.cl fx.env.cells

noncomputable def RelS (c : Cx) (fx : Fx) (ρ : List Addr) (σ : St) (s : Shared) : Prop := Rel c fx ρ σ s.heap ∧ s.gens = c.g₀ ∧ s.os = c.os₀
noncomputable def HRelS (c : Cx) (ρ : List Addr) (hp : List O) (s : Shared) : Prop := HRel c ρ hp s.heap ∧ s.gens = c.g₀ ∧ s.os = c.os₀

structure Ext (fx : Fx) (ρ : List Addr) (h : Heap) (ρ' : List Addr) (h' : Heap) : Prop where
  new : ∀ a ∈ ρ', a ∈ ρ ∨ h.get? a = none
  keep : Keep (fx.env.locals :: ρ) h h'

structure Room (c : Cx) (d : Nat) (A : Around) : Prop where
  handled : A.handled = c.hd.map Value.ref
  depth : A.depth + 3 * d < 990
  units : A.units + 30 * d < 9800
  cap : d ≤ 60
  top : d = 60 → A = c.A₀.deeper c.top
  gds : A.guards = some []
theorem Room.le {c : Cx} {d d' : Nat} {A : Around} (r : Room c d A) (h : d' ≤ d) : Room c d' A := ⟨r.1, by have := r.2; omega, by have := r.3; omega, Nat.le_trans h r.4, fun e => r.5 (by have := r.4; omega), r.6⟩
theorem Room.limit {c : Cx} {d : Nat} {A : Around} (r : Room c d A) : A.depth < recursionLimit := by have := r.2; unfold recursionLimit; omega
theorem Room.c {c : Cx} {d : Nat} {A : Around} (r : Room c d A) : A.units < cLine := by have := r.3; unfold cLine; omega
theorem Room.in1 {c : Cx} {d : Nat} {A : Around} (r : Room c (d + 1) A) : Room c d A.in1 := ⟨r.1, by have := r.2; simp only [Around.in1_depth]; omega, by have := r.3; simp only [Around.in1_units]; omega, by have := r.4; omega, fun e => by have := r.4; omega, r.6⟩
theorem Room.deeper {c : Cx} {d : Nat} {A : Around} (r : Room c (d + 1) A) (env : Env) : Room c d (A.deeper env) := ⟨r.1, by have := r.2; show A.depth + 1 + _ < _; omega, by have := r.3; simp only [Around.deeper_units]; omega, by have := r.4; omega, fun e => by have := r.4; omega, r.6⟩
theorem Room.none {c : Cx} {d : Nat} {A : Around} (r : Room c d A) (hn : c.hd = .none) : A.handled = .none := by rw [r.1, hn]; rfl

noncomputable abbrev noE : Value → Shared → Prop := fun _ _ => False

inductive Post (c : Cx) (fx : Fx) (ρ : List Addr) (s : Shared) (Q : V → St → Prop) (x : Value) (s' : Shared) : Prop
  | mk (ρ' : List Addr) (v : V) (σ' : St) (p : ρ <+: ρ') (e : Ext fx ρ s.heap ρ' s'.heap) (r : RelS c fx ρ' σ' s') (hv : VR ρ' s'.heap v x) (q : Q v σ') : Post c fx ρ s Q x s'
inductive Posts (c : Cx) (fx : Fx) (ρ : List Addr) (s : Shared) (Q : List V → St → Prop) (x : List Value) (s' : Shared) : Prop
  | mk (ρ' : List Addr) (v : List V) (σ' : St) (p : ρ <+: ρ') (e : Ext fx ρ s.heap ρ' s'.heap) (r : RelS c fx ρ' σ' s') (hv : VRs ρ' s'.heap v x) (q : Q v σ') : Posts c fx ρ s Q x s'
inductive PostU {α : Type} (c : Cx) (fx : Fx) (ρ : List Addr) (s : Shared) (Q : α → St → Prop) (x : α) (s' : Shared) : Prop
  | mk (ρ' : List Addr) (σ' : St) (p : ρ <+: ρ') (e : Ext fx ρ s.heap ρ' s'.heap) (r : RelS c fx ρ' σ' s') (q : Q x σ') : PostU c fx ρ s Q x s'

inductive Fl where
  | next | brk | cont
  | ret (v : V)
inductive FR (ρ : List Addr) (h : Heap) : Fl → Flow → Prop
  | next : FR ρ h .next .next
  | brk : FR ρ h .brk .brk
  | cont : FR ρ h .cont .cont
  | ret {v : V} {x : Value} : VR ρ h v x → FR ρ h (.ret v) (.ret x)
inductive PostX (c : Cx) (fx : Fx) (ρ : List Addr) (s : Shared) (Q : Fl → St → Prop) (x : Flow) (s' : Shared) : Prop
  | mk (ρ' : List Addr) (f : Fl) (σ' : St) (e : Ext fx ρ s.heap ρ' s'.heap) (r : RelS c fx ρ' σ' s') (hv : FR ρ' s'.heap f x) (q : Q f σ') : PostX c fx ρ s Q x s'

noncomputable def EV (c : Cx) (d : Nat) (fx : Fx) (t : Sem Value) (σ : St) (Q : V → St → Prop) : Prop :=
  ∀ ρ s A, Room c d A → RelS c fx ρ σ s → wpAny c.M A t (Post c fx ρ s Q) noE s
noncomputable def EVs (c : Cx) (d : Nat) (fx : Fx) (t : Sem (List Value)) (σ : St) (Q : List V → St → Prop) : Prop :=
  ∀ ρ s A, Room c d A → RelS c fx ρ σ s → wpAny c.M A t (Posts c fx ρ s Q) noE s
noncomputable def UV {α : Type} (c : Cx) (d : Nat) (fx : Fx) (t : Sem α) (σ : St) (Q : α → St → Prop) : Prop :=
  ∀ ρ s A, Room c d A → RelS c fx ρ σ s → wpAny c.M A t (PostU c fx ρ s Q) noE s
noncomputable def XV (c : Cx) (d : Nat) (fx : Fx) (t : Sem Flow) (σ : St) (Q : Fl → St → Prop) : Prop :=
  ∀ ρ s A, Room c d A → RelS c fx ρ σ s → wpAny c.M A t (PostX c fx ρ s Q) noE s
noncomputable def OV1 (c : Cx) (d : Nat) (fx : Fx) (f : Value → Sem Value) (v : V) (σ : St) (Q : V → St → Prop) : Prop :=
  ∀ ρ s A x, Room c d A → RelS c fx ρ σ s → VR ρ s.heap v x → wpAny c.M A (f x) (Post c fx ρ s Q) noE s
noncomputable def OV2 (c : Cx) (d : Nat) (fx : Fx) (f : Value → Value → Sem Value) (v u : V) (σ : St) (Q : V → St → Prop) : Prop :=
  ∀ ρ s A x y, Room c d A → RelS c fx ρ σ s → VR ρ s.heap v x → VR ρ s.heap u y → wpAny c.M A (f x y) (Post c fx ρ s Q) noE s
noncomputable def OVs (c : Cx) (d : Nat) (fx : Fx) (f : List Value → Sem Value) (vs : List V) (σ : St) (Q : V → St → Prop) : Prop :=
  ∀ ρ s A xs, Room c d A → RelS c fx ρ σ s → VRs ρ s.heap vs xs → wpAny c.M A (f xs) (Post c fx ρ s Q) noE s
noncomputable def OU1 {α : Type} (c : Cx) (d : Nat) (fx : Fx) (f : Value → Sem α) (v : V) (σ : St) (Q : α → St → Prop) : Prop :=
  ∀ ρ s A x, Room c d A → RelS c fx ρ σ s → VR ρ s.heap v x → wpAny c.M A (f x) (PostU c fx ρ s Q) noE s
end Mine
namespace Mine
open PySem PySem.W PyProof.Rows

section
variable {c : Cx} {d : Nat} {fx : Fx} {ρ ρ' ρ'' : List Addr} {σ σ' : St} {h h' h'' : Heap} {s s' s₁ : Shared} {A : Around}

theorem HRel.at {hp : List O} (r : HRel c ρ hp h) {i : Nat} {o : O} (e : hp[i]? = some o) : ∃ a x, ρ[i]? = some a ∧ h.get? a = some x ∧ OR ρ h o x := by
  obtain ⟨hi, _⟩ := List.getElem?_eq_some_iff.mp e
  have hi' : i < ρ.length := by rw [r.len]; exact hi
  obtain ⟨x, h1, h2⟩ := r.obj i ρ[i] o (List.getElem?_eq_getElem hi') e
  exact ⟨ρ[i], x, List.getElem?_eq_getElem hi', h1, h2⟩
theorem HRel.mem {hp : List O} (r : HRel c ρ hp h) {a : Addr} (e : a ∈ ρ) : ∃ (i : Nat) (o : O) (x : Obj), ρ[i]? = some a ∧ hp[i]? = some o ∧ h.get? a = some x ∧ OR ρ h o x := by
  obtain ⟨i, hi, rfl⟩ := List.getElem_of_mem e
  have hi' : i < hp.length := by rw [← r.len]; exact hi
  obtain ⟨x, h1, h2⟩ := r.obj i ρ[i] hp[i] (List.getElem?_eq_getElem hi) (List.getElem?_eq_getElem hi')
  exact ⟨i, hp[i], x, List.getElem?_eq_getElem hi, List.getElem?_eq_getElem hi', h1, h2⟩
theorem Rel.locAt (r : Rel c fx ρ σ h) : ∃ o es ep, h.get? fx.env.locals = some o ∧ o.data = .dict es ep := by
  obtain ⟨m, ⟨o, es, ep, h1, h2, _⟩, _⟩ := r.loc
  exact ⟨o, es, ep, h1, h2⟩
theorem HRel.notFix {hp : List O} (r : HRel c ρ hp h) {a : Addr} {o : Obj} (f : Fix o) (e : h.get? a = some o) : a ∉ ρ := by
  intro hm
  obtain ⟨i, o', x, _, _, h1, h2⟩ := r.mem hm
  rw [e] at h1; cases h1
  exact h2.notFix f
theorem Fix.notDict {o : Obj} (f : Fix o) {es ep} (e : o.data = .dict es ep) : False := by
  rcases f with ⟨_, _, rfl⟩ | ⟨_, _, rfl⟩ | ⟨_, vs, h1⟩
  · cases e
  · cases e
  · rw [h1] at e; cases e
theorem Rel.immKeep (r : Rel c fx ρ σ h) (k : Keep (fx.env.locals :: ρ) h h') : ImmKeep h h' := fun a o f e => by
  refine k a o ?_ e
  intro hm
  rcases List.mem_cons.mp hm with rfl | hm
  · obtain ⟨o', es, ep, h1, h2⟩ := r.locAt
    rw [e] at h1; cases h1
    exact f.notDict h2
  · exact r.toHRel.notFix f e hm
theorem HRel.immKeep {hp : List O} (r : HRel c ρ hp h) (k : Keep ρ h h') : ImmKeep h h' := fun a o f e => k a o (r.notFix f e) e

theorem Keep.refl (S : List Addr) (h : Heap) : Keep S h h := fun _ _ _ e => e
theorem Keep.push (S : List Addr) (h : Heap) (o : Obj) : Keep S h (h.push o) := fun _ _ _ e => Heap.get?_push_of_some _ e
theorem Keep.sub {S S' : List Addr} (x : Keep S h h') (hs : ∀ a ∈ S, a ∈ S') : Keep S' h h' := fun b o n e => x b o (fun m => n (hs b m)) e
theorem Keep.of_sameBut {a : Addr} (x : Heap.SameBut a h h') : Keep [a] h h' := fun b _ n e => (x.2 b (fun q => n (by rw [q]; exact .head _))).trans e
theorem Keep.of_extBut {a : Addr} (x : Heap.ExtBut a h h') : Keep [a] h h' := fun b o n e => x b o (fun q => n (by rw [q]; exact .head _)) e

theorem Ext.refl (fx : Fx) (ρ : List Addr) (h : Heap) : Ext fx ρ h ρ h := ⟨fun _ m => .inl m, .refl _ _⟩
theorem Ext.trans (x : Ext fx ρ h ρ' h') (y : Ext fx ρ' h' ρ'' h'') (hL : ∃ o, h'.get? fx.env.locals = some o) : Ext fx ρ h ρ'' h'' := by
  refine ⟨fun a m => ?_, fun b o n e => ?_⟩
  · rcases y.new a m with m' | z
    · exact x.new a m'
    · by_cases ha : a ∈ ρ
      · exact .inl ha
      · right
        cases q : h.get? a with
        | none => rfl
        | some o =>
          by_cases hl : a = fx.env.locals
          · obtain ⟨o', e'⟩ := hL; rw [hl, e'] at z; cases z
          · have := x.keep a o (fun m' => by rcases List.mem_cons.mp m' with rfl | m'; exact hl rfl; exact ha m') q
            rw [this] at z; cases z
  · refine y.keep b o (fun m => ?_) (x.keep b o n e)
    rcases List.mem_cons.mp m with rfl | m
    · exact n (.head _)
    · rcases x.new b m with m' | z
      · exact n (.tail _ m')
      · rw [e] at z; cases z
theorem Rel.hasL (r : Rel c fx ρ σ h) : ∃ o, h.get? fx.env.locals = some o := let ⟨o, _, _, e, _⟩ := r.locAt; ⟨o, e⟩

theorem Post.sh {s₀ s₁ s₂ : Shared} {x : Value} (z : Post c fx ρ s₁ Q x s₂) (h : s₁.heap = s₀.heap) : Post c fx ρ s₀ Q x s₂ := by
  obtain ⟨ρ', v, σ', p, e, r, hv, q⟩ := z
  exact ⟨ρ', v, σ', p, h ▸ e, r, hv, q⟩
theorem Post.trans {Q : V → St → Prop} {x : Value} (p : ρ <+: ρ') (e : Ext fx ρ s.heap ρ' s₁.heap) (r : RelS c fx ρ' σ s₁) (h : Post c fx ρ' s₁ Q x s') : Post c fx ρ s Q x s' := by
  obtain ⟨ρ'', v, σ', p', e', r', hv, q⟩ := h
  exact ⟨ρ'', v, σ', p.trans p', e.trans e' r.1.hasL, r', hv, q⟩
theorem PostU.trans {α : Type} {Q : α → St → Prop} {x : α} (p : ρ <+: ρ') (e : Ext fx ρ s.heap ρ' s₁.heap) (r : RelS c fx ρ' σ s₁) (h : PostU c fx ρ' s₁ Q x s') : PostU c fx ρ s Q x s' := by
  obtain ⟨ρ'', σ', p', e', r', q⟩ := h
  exact ⟨ρ'', σ', p.trans p', e.trans e' r.1.hasL, r', q⟩
theorem PostX.trans {Q : Fl → St → Prop} {x : Flow} (e : Ext fx ρ s.heap ρ' s₁.heap) (r : RelS c fx ρ' σ s₁) (h : PostX c fx ρ' s₁ Q x s') : PostX c fx ρ s Q x s' := by
  obtain ⟨ρ'', f, σ', e', r', hv, q⟩ := h
  exact ⟨ρ'', f, σ', e.trans e' r.1.hasL, r', hv, q⟩

theorem EV.mono {t : Sem Value} {Q Q' : V → St → Prop} (h : EV c d fx t σ Q) (k : ∀ v σ', Q v σ' → Q' v σ') : EV c d fx t σ Q' := fun ρ s A R r =>
  wpAny_mono (h ρ s A R r) (fun _ _ ⟨ρ', v, σ', p, e, r, hv, q⟩ => ⟨ρ', v, σ', p, e, r, hv, k _ _ q⟩) fun _ _ x => x
theorem XV.mono {t : Sem Flow} {Q Q' : Fl → St → Prop} (h : XV c d fx t σ Q) (k : ∀ v σ', Q v σ' → Q' v σ') : XV c d fx t σ Q' := fun ρ s A R r =>
  wpAny_mono (h ρ s A R r) (fun _ _ ⟨ρ', v, σ', e, r, hv, q⟩ => ⟨ρ', v, σ', e, r, hv, k _ _ q⟩) fun _ _ x => x
theorem bindEE {f : Value → Sem Value} {t : Sem Value} {Q : V → St → Prop} (R : Room c d A) (r : RelS c fx ρ σ s)
    (h : EV c d fx t σ (fun v σ₁ => OV1 c d fx f v σ₁ Q)) : wpAny c.M A t (fun x s₁ => wpAny c.M A (f x) (Post c fx ρ s Q) noE s₁) noE s := by
  refine wpAny_mono (h ρ s A R r) ?_ fun _ _ x => x
  rintro x s₁ ⟨ρ₁, v, σ₁, p₁, e₁, r₁, v₁, h₁⟩
  exact wpAny_mono (h₁ ρ₁ s₁ A x R r₁ v₁) (fun y s₂ z => z.trans p₁ e₁ r₁) fun _ _ x => x

theorem Post.same {Q : V → St → Prop} {v : V} {x : Value} (r : RelS c fx ρ σ s) (hs : s'.heap = s.heap) (hg : s'.gens = s.gens) (ho : s'.os = s.os) (hv : VR ρ s.heap v x) (q : Q v σ) : Post c fx ρ s Q x s' :=
  ⟨ρ, v, σ, List.prefix_refl _, by rw [hs]; exact .refl _ _ _, by unfold RelS at r ⊢; rw [hs, hg, ho]; exact r, by rw [hs]; exact hv, q⟩

theorem HRel.ext {hp : List O} (r : HRel c ρ hp h) (k : ∀ b o, h.get? b = some o → h'.get? b = some o) : HRel c ρ hp h' :=
  ⟨fun b o e => k b o (r.keep b o e), r.len, r.nodup, r.fresh, fun i a o e1 e2 => let ⟨x, h1, h2⟩ := r.obj i a o e1 e2; ⟨x, k _ _ h1, h2.mono (List.prefix_refl _) fun _ _ _ e => k _ _ e⟩,
    fun a e => let ⟨m, o, q, z⟩ := r.held a e; ⟨m, o, k _ _ q, z⟩⟩
theorem Rel.ext (r : Rel c fx ρ σ h) (k : ∀ b o, h.get? b = some o → h'.get? b = some o) : Rel c fx ρ σ h' := by
  obtain ⟨m, hm, hv⟩ := r.loc
  exact { toHRel := r.toHRel.ext k, ok := r.ok, loc := ⟨m, hm.keeps k, fun x v e => let ⟨u, h1, h2⟩ := hv x v e; ⟨u, h1, h2.mono (List.prefix_refl _) fun _ _ _ e => k _ _ e⟩⟩,
          lfresh := r.lfresh, lapart := r.lapart, pre := r.pre, glob := r.glob, bltn := r.bltn, kind := r.kind, cells := r.cells }
theorem Rel.push (r : Rel c fx ρ σ h) (o : Obj) : Rel c fx ρ σ (h.push o) := r.ext fun _ _ e => Heap.get?_push_of_some _ e
theorem Ext.ext (k : ∀ b o, h.get? b = some o → h'.get? b = some o) : Ext fx ρ h ρ h' := ⟨fun _ m => .inl m, fun b o _ e => k b o e⟩
theorem Ext.push (o : Obj) : Ext fx ρ h ρ (h.push o) := .ext fun _ _ e => Heap.get?_push_of_some _ e

theorem get_none_of_lt {a : Addr} (ha : h.objs.size ≤ a) : h.get? a = none := by
  cases q : h.get? a with
  | none => rfl
  | some o => exact absurd (Heap.lt_size q) (Nat.not_lt.mpr ha)
theorem HRel.lt {hp : List O} (r : HRel c ρ hp h) {a : Addr} (m : a ∈ ρ) : a < h.objs.size := by
  obtain ⟨_, _, x, _, _, e, _⟩ := r.mem m
  exact Heap.lt_size e
theorem HRel.size₀ {hp : List O} (r : HRel c ρ hp h) {a : Addr} (ha : h.objs.size ≤ a) : c.H₀.get? a = none := by
  cases q : c.H₀.get? a with
  | none => rfl
  | some o => exact absurd (Heap.lt_size (r.keep _ _ q)) (Nat.not_lt.mpr ha)

theorem pre_snoc (ρ : List Addr) (a : Addr) : ρ <+: ρ ++ [a] := List.prefix_append ..
theorem HRel.alloc {hp : List O} {o : O} {x : Obj} (r : HRel c ρ hp h) (hf : x.isFreed = false) (ho : OR (ρ ++ [h.objs.size]) (h.push x) o x) : HRel c (ρ ++ [h.objs.size]) (hp ++ [o]) (h.push x) := by
  have hn : h.objs.size ∉ ρ := fun m => Nat.lt_irrefl _ (r.lt m)
  have k : ImmKeep h (h.push x) := fun _ _ _ e => Heap.get?_push_of_some _ e
  refine ⟨fun b o e => Heap.get?_push_of_some _ (r.keep b o e), by simp [r.len], ?_, fun a m => ?_, fun i a o' e1 e2 => ?_, fun a e => let ⟨m, o, q, z⟩ := r.held a e; ⟨List.mem_append_left _ m, o, Heap.get?_push_of_some _ q, z⟩⟩
  · rw [List.nodup_append]
    refine ⟨r.nodup, by simp, fun a ha b hb e => ?_⟩
    rw [List.mem_singleton] at hb
    subst hb; subst e
    exact hn ha
  · rcases List.mem_append.mp m with m | m
    · exact r.fresh a m
    · rw [List.mem_singleton] at m; subst m; exact r.size₀ (Nat.le_refl _)
  · by_cases hi : i < ρ.length
    · rw [List.getElem?_append_left hi] at e1
      rw [List.getElem?_append_left (by rw [← r.len]; exact hi)] at e2
      obtain ⟨y, h1, h2⟩ := r.obj i a o' e1 e2
      exact ⟨y, Heap.get?_push_of_some _ h1, h2.mono (pre_snoc ..) k⟩
    · have hl : i = ρ.length := by
        have := (List.getElem?_eq_some_iff.mp e1).1
        simp at this; omega
      subst hl
      rw [List.getElem?_append_right (Nat.le_refl _)] at e1
      rw [List.getElem?_append_right (by rw [r.len]; exact Nat.le_refl _)] at e2
      rw [r.len] at e2
      simp at e1 e2
      subst e1 e2
      exact ⟨x, Heap.get?_push_size _ hf, ho⟩
theorem Rel.alloc {loc : List (Str × V)} {hp : List O} {o : O} {x : Obj} (r : Rel c fx ρ ⟨loc, hp⟩ h) (hf : x.isFreed = false) (ho : OR (ρ ++ [h.objs.size]) (h.push x) o x) :
    Rel c fx (ρ ++ [h.objs.size]) ⟨loc, hp ++ [o]⟩ (h.push x) := by
  obtain ⟨m, hm, hv⟩ := r.loc
  have k : ∀ b o, h.get? b = some o → (h.push x).get? b = some o := fun _ _ e => Heap.get?_push_of_some _ e
  exact { toHRel := r.toHRel.alloc hf ho, ok := r.ok, loc := ⟨m, hm.keeps k, fun x v e => let ⟨u, h1, h2⟩ := hv x v e; ⟨u, h1, h2.mono (pre_snoc ..) fun _ _ _ e => k _ _ e⟩⟩,
          lfresh := r.lfresh,
          lapart := fun m => by
            rcases List.mem_append.mp m with m | m
            · exact r.lapart m
            · rw [List.mem_singleton] at m
              obtain ⟨o, e⟩ := r.hasL
              have := Heap.lt_size e
              rw [m] at this
              exact Nat.lt_irrefl _ this
          pre := r.pre.trans (pre_snoc ..), glob := r.glob, bltn := r.bltn, kind := r.kind, cells := r.cells }
theorem Ext.alloc (x : Obj) : Ext fx ρ h (ρ ++ [h.objs.size]) (h.push x) :=
  ⟨fun a m => by
    rcases List.mem_append.mp m with m | m
    · exact .inl m
    · rw [List.mem_singleton] at m; subst m; exact .inr (get_none_of_lt (Nat.le_refl _)), .push _ _ _⟩

theorem mem_of_get? {ρ : List Addr} {i : Nat} {a : Addr} (e : ρ[i]? = some a) : a ∈ ρ := List.mem_of_getElem? e
theorem nodup_get {ρ : List Addr} (n : ρ.Nodup) {i j : Nat} {a : Addr} (e1 : ρ[i]? = some a) (e2 : ρ[j]? = some a) : i = j := by
  obtain ⟨h1, e1⟩ := List.getElem?_eq_some_iff.mp e1
  obtain ⟨h2, e2⟩ := List.getElem?_eq_some_iff.mp e2
  have q := List.pairwise_iff_getElem.mp n
  rcases Nat.lt_trichotomy i j with hl | hl | hl
  · exact absurd (e1.trans e2.symm) (q i j h1 h2 hl)
  · exact hl
  · exact absurd (e2.trans e1.symm) (q j i h2 h1 hl)
noncomputable def O.isExc : O → Bool
  | .exc .. => true
  | _ => false
theorem OR.ctx {ρ : List Addr} {h : Heap} {o : O} {r : Obj} (x : OR ρ h o r) (z : CtxNone r) : o.isExc = true := by
  obtain ⟨vs, z1, z2⟩ := z
  cases o <;> simp only [OR] at x
  case list => obtain ⟨xs, n, rfl, _⟩ := x; cases z1
  case ns => obtain ⟨xs, n, rfl, _⟩ := x; cases z1
  case inst => obtain ⟨dx, _, rfl⟩ := x; cases z1
  case cell => obtain ⟨y, e, _⟩ := x; rw [e] at z1; cases z1
  case fn => obtain ⟨_, _, _, _, _, rfl, _⟩ := x; cases z1
  case citer => obtain ⟨_, _, _, rfl, _⟩ := x; cases z1; cases z2
  case rng => obtain ⟨_, _, _, rfl⟩ := x; cases z1; cases z2
  case di => obtain ⟨_, _, _, _, ⟨_, _, hd, hr⟩, _⟩ := x; rw [hr.1] at z1; cases z1
  case ds => obtain ⟨_, _, _, _, ⟨_, _, hd, hr⟩, _⟩ := x; rw [hr.1] at z1; cases z1
  case view => obtain ⟨_, _, rfl⟩ := x; cases z1; cases z2
  case exc => rfl
  case tab P j p =>
    obtain ⟨ps, _, rfl, _, t⟩ := x
    cases z1
    cases p with
    | nil => rw [← Array.getElem?_toList, show vs.toList = [] from t] at z2; cases z2
    | cons q p => obtain ⟨cc, rest, e, _⟩ := t; rw [← Array.getElem?_toList, e] at z2; cases z2
noncomputable def UpdOk (hp : List O) (i : Nat) (h : Heap) (a : Addr) (x : Obj) : Prop := (∀ o, hp[i]? = some o → o.isExc = false) ∨ ∀ r, h.get? a = some r → CtxNone r → CtxNone x
theorem UpdOk.of {hp : List O} {i : Nat} {o : O} {h : Heap} {a : Addr} {x : Obj} (e : hp[i]? = some o) (ho : o.isExc = false := by rfl) : UpdOk hp i h a x := .inl fun o' e' => by rw [e] at e'; cases e'; exact ho
theorem HRel.upd {hp : List O} {i : Nat} {a : Addr} {o : O} {x : Obj} (r : HRel c ρ hp h) (ha : ρ[i]? = some a) (hs : Keep [a] h h') (hx : h'.get? a = some x) (ho : OR ρ h' o x) (hq : UpdOk hp i h a x) : HRel c ρ (hp.set i o) h' := by
  have fr := r.fresh a (mem_of_get? ha)
  have k : ImmKeep h h' := r.immKeep (hs.sub fun b m => by rw [List.mem_singleton] at m; subst m; exact mem_of_get? ha)
  refine ⟨fun b o e => hs b o (fun m => ?_) (r.keep b o e), by simp [r.len], r.nodup, r.fresh, fun j b o' e1 e2 => ?_, fun b e => ?_⟩
  · rw [List.mem_singleton] at m; subst m; rw [e] at fr; cases fr
  · by_cases hj : j = i
    · subst hj
      rw [ha] at e1; cases e1
      have hlt : j < hp.length := by rw [← r.len]; exact (List.getElem?_eq_some_iff.mp ha).1
      rw [List.getElem?_set_self hlt] at e2; cases e2
      exact ⟨x, hx, ho⟩
    · rw [List.getElem?_set_ne (Ne.symm hj)] at e2
      obtain ⟨y, h1, h2⟩ := r.obj j b o' e1 e2
      refine ⟨y, hs b y (fun m => ?_) h1, h2.mono (List.prefix_refl _) k⟩
      rw [List.mem_singleton] at m; subst m
      exact hj (nodup_get r.nodup e1 ha)
  · obtain ⟨m, o', q, z⟩ := r.held b e
    by_cases hb : b = a
    · subst hb
      refine ⟨m, x, hx, ?_⟩
      rcases hq with hq | hq
      · have hlt : i < hp.length := by rw [← r.len]; exact (List.getElem?_eq_some_iff.mp ha).1
        obtain ⟨r', g1, g2⟩ := r.obj i b _ ha (List.getElem?_eq_getElem hlt)
        rw [q] at g1; cases g1
        have := g2.ctx z
        rw [hq _ (List.getElem?_eq_getElem hlt)] at this; cases this
      · exact hq _ q z
    · exact ⟨m, o', hs b o' (fun n => hb (List.mem_singleton.mp n)) q, z⟩
theorem Rel.upd {loc : List (Str × V)} {hp : List O} {i : Nat} {a : Addr} {o : O} {x : Obj} (r : Rel c fx ρ ⟨loc, hp⟩ h) (ha : ρ[i]? = some a) (hs : Keep [a] h h') (hx : h'.get? a = some x) (ho : OR ρ h' o x) (hq : UpdOk hp i h a x) :
    Rel c fx ρ ⟨loc, hp.set i o⟩ h' := by
  have k : ImmKeep h h' := r.toHRel.immKeep (hs.sub fun b m => by rw [List.mem_singleton] at m; subst m; exact mem_of_get? ha)
  obtain ⟨m, ⟨o₁, es, ep, hL, hr⟩, hv⟩ := r.loc
  have ne : fx.env.locals ∉ [a] := fun m => by rw [List.mem_singleton] at m; exact r.lapart (m ▸ mem_of_get? ha)
  exact { toHRel := r.toHRel.upd ha hs hx ho hq, ok := r.ok, loc := ⟨m, ⟨o₁, es, ep, hs _ _ ne hL, hr⟩, fun x v e => let ⟨u, h1, h2⟩ := hv x v e; ⟨u, h1, h2.mono (List.prefix_refl _) k⟩⟩,
          lfresh := r.lfresh, lapart := r.lapart, pre := r.pre, glob := r.glob, bltn := r.bltn, kind := r.kind, cells := r.cells }
theorem Ext.upd {i : Nat} {a : Addr} (ha : ρ[i]? = some a) (hs : Keep [a] h h') : Ext fx ρ h ρ h' :=
  ⟨fun _ m => .inl m, hs.sub fun b m => by rw [List.mem_singleton] at m; subst m; exact .tail _ (mem_of_get? ha)⟩

theorem HRel.side {hp : List O} {S : List Addr} (r : HRel c ρ hp h) (hs : Keep S h h') (n₀ : ∀ b ∈ S, c.H₀.get? b = none) (nρ : ∀ b ∈ S, b ∉ ρ) (nf : ∀ b ∈ S, ∀ o, h.get? b = some o → ¬ Fix o) : HRel c ρ hp h' := by
  have k : ImmKeep h h' := fun a o f e => hs a o (fun m => nf a m o e f) e
  refine ⟨fun b o e => hs b o (fun m => by rw [n₀ b m] at e; cases e) (r.keep b o e), r.len, r.nodup, r.fresh, fun i a o e1 e2 => ?_, fun a e => let ⟨m, o, q, z⟩ := r.held a e; ⟨m, o, hs a o (fun n => nρ a n m) q, z⟩⟩
  obtain ⟨x, h1, h2⟩ := r.obj i a o e1 e2
  exact ⟨x, hs a x (fun m => nρ a m (mem_of_get? e1)) h1, h2.mono (List.prefix_refl _) k⟩
theorem Rel.side {S : List Addr} (r : Rel c fx ρ σ h) (hs : Keep S h h') (n₀ : ∀ b ∈ S, c.H₀.get? b = none) (nρ : ∀ b ∈ S, b ∉ ρ) (nL : fx.env.locals ∉ S) (nf : ∀ b ∈ S, ∀ o, h.get? b = some o → ¬ Fix o) : Rel c fx ρ σ h' := by
  have k : ImmKeep h h' := fun a o f e => hs a o (fun m => nf a m o e f) e
  obtain ⟨m, ⟨o₁, es, ep, hL, hr⟩, hv⟩ := r.loc
  exact { toHRel := r.toHRel.side hs n₀ nρ nf, ok := r.ok, loc := ⟨m, ⟨o₁, es, ep, hs _ _ nL hL, hr⟩, fun x v e => let ⟨u, h1, h2⟩ := hv x v e; ⟨u, h1, h2.mono (List.prefix_refl _) k⟩⟩,
          lfresh := r.lfresh, lapart := r.lapart, pre := r.pre, glob := r.glob, bltn := r.bltn, kind := r.kind, cells := r.cells }

noncomputable def put (x : Str) (v : V) : List (Str × V) → List (Str × V)
  | [] => [(x, v)]
  | (y, u) :: r => if x == y then (y, v) :: r else (y, u) :: put x v r
theorem put_lookup (x : Str) (v : V) (y : Str) : ∀ (l : List (Str × V)), (put x v l).lookup y = if y == x then some v else l.lookup y
  | [] => by
    unfold put
    rw [List.lookup_cons]
    cases y == x <;> simp
  | (z, u) :: r => by
    unfold put
    cases hz : x == z with
    | true =>
      have := beq_iff_eq.mp hz; subst this
      simp only [if_true, List.lookup_cons]
      cases y == x <;> rfl
    | false =>
      simp only [Bool.false_eq_true, if_false, List.lookup_cons, put_lookup x v y r]
      cases hy : y == z with
      | true =>
        have := beq_iff_eq.mp hy; subst this
        have : (y == x) = false := by
          cases q : y == x with
          | false => rfl
          | true => rw [beq_iff_eq.mp q] at hz; simp at hz
        simp [this]
      | false => rfl
theorem Rel.setLoc {loc : List (Str × V)} {hp : List O} {x : Str} {v : V} {u : Value} {m : Str → Option Value} (r : Rel c fx ρ ⟨loc, hp⟩ h) (hm : h.Ns fx.env.locals m)
    (hn : h'.Ns fx.env.locals (fun y => if y = x then some u else m y)) (hs : Heap.SameBut fx.env.locals h h') (hv : VR ρ h v u) : Rel c fx ρ ⟨put x v loc, hp⟩ h' := by
  have ks : Keep [fx.env.locals] h h' := .of_sameBut hs
  have k : ImmKeep h h' := r.immKeep (ks.sub fun b m => by rw [List.mem_singleton] at m; subst m; exact .head _)
  obtain ⟨m', hm', hl⟩ := r.loc
  have em : m' = m := by
    obtain ⟨o₁, es₁, ep₁, e1, e2, _, e3⟩ := hm
    obtain ⟨o₂, es₂, ep₂, f1, f2, _, f3⟩ := hm'
    rw [e1] at f1; cases f1
    rw [e2] at f2; cases f2
    funext y; rw [← e3, ← f3]
  subst em
  exact { toHRel := r.toHRel.side ks (fun b m => by rw [List.mem_singleton] at m; subst m; exact r.lfresh) (fun b m => by rw [List.mem_singleton] at m; subst m; exact r.lapart)
            (fun b m o e => by
              rw [List.mem_singleton] at m; subst m
              obtain ⟨o₁, es, ep, e1, e2⟩ := r.locAt
              rw [e] at e1; cases e1
              exact fun f => f.notDict e2)
          ok := r.ok
          loc := ⟨_, hn, fun y v' e => by
            rw [put_lookup] at e
            cases hy : y == x with
            | true =>
              rw [hy] at e; simp at e; subst e
              have := beq_iff_eq.mp hy; subst this
              exact ⟨u, by simp, hv.mono (List.prefix_refl _) k⟩
            | false =>
              rw [hy] at e; simp at e
              obtain ⟨u', h1, h2⟩ := hl y v' e
              have : y ≠ x := fun q => by rw [q] at hy; simp at hy
              exact ⟨u', by simp [this, h1], h2.mono (List.prefix_refl _) k⟩⟩
          lfresh := r.lfresh, lapart := r.lapart, pre := r.pre, glob := r.glob, bltn := r.bltn, kind := r.kind, cells := r.cells }
theorem Ext.setLoc (hs : Heap.SameBut fx.env.locals h h') : Ext fx ρ h ρ h' := ⟨fun _ m => .inl m, (Keep.of_sameBut hs).sub fun b m => by rw [List.mem_singleton] at m; subst m; exact .head _⟩
end
end Mine
namespace Mine
open PySem PySem.W PyProof.Rows

section
variable {c : Cx} {d : Nat} {fx : Fx} {ρ ρ' ρ'' : List Addr} {σ σ' : St} {h h' h'' : Heap} {s s' s₁ : Shared} {A : Around} {Q : V → St → Prop}
  {loc : List (Str × V)} {hp : List O}

theorem EV.cint {i k pos} (q : Q (.int i) σ) : EV c d fx (eval (.Constant (.int i) k pos) fx.env) σ Q := fun _ _ _ _ r => wpAny_Constant_int (Post.same r rfl rfl rfl (.int _ _) q)
theorem EV.cstr {x : Str} {k pos} {l : List Nat} (q : Q (.str l) σ) (e : x.cps.toList = l := by rfl) : EV c d fx (eval (.Constant (.str x) k pos) fx.env) σ Q :=
  fun _ _ _ _ r => Calls.Constant_str (Post.same r rfl rfl rfl (.str _ e) q)
theorem EV.cnone {k pos} (q : Q .none σ) : EV c d fx (eval (.Constant .none k pos) fx.env) σ Q := fun ρ s A _ r => (wpAny_pure (Post.same r rfl rfl rfl .none q) : wpAny c.M A (pure .none) _ _ s)
theorem EV.cbool {b k pos} (q : Q (.bool b) σ) : EV c d fx (eval (.Constant (.bool b) k pos) fx.env) σ Q := fun ρ s A _ r => (wpAny_pure (Post.same r rfl rfl rfl (.bool _) q) : wpAny c.M A (pure (.bool b)) _ _ s)

theorem EV.var {x : Str} {pos : Pos} {v : V} (e : σ.loc.lookup x = some v) (q : Q v σ) (hx : fx.env.kindOf x = some .local := by rfl) (hd : (x == ("__debug__" : Str)) = false := by decide) :
    EV c d fx (eval (.Name x pos) fx.env) σ Q := fun ρ s A _ r => by
  obtain ⟨m, hm, hv⟩ := r.1.loc
  obtain ⟨u, h1, h2⟩ := hv x v e
  exact wpAny_Name (wpAny_loadName_local r.1.kind hx hm h1 (Post.same r rfl rfl rfl h2 q)) hd
theorem Rel.cellAt (r : Rel c fx ρ σ h) {x : Str} {i : Nat} {v : V} (e : fx.cl.lookup x = some i) (ho : σ.hp[i]? = some (.cell (some v))) : ∃ a u, fx.env.cells.lookup x = some a ∧ ρ[i]? = some a ∧ h.IsCell a (some u) ∧ VR ρ h v u := by
  obtain ⟨a, h1, h2⟩ := r.cells.look e
  have h2' := pre_get r.pre h2
  obtain ⟨x', h3, h4⟩ := r.obj i a _ h2' ho
  obtain ⟨y, hy, h5⟩ := h4
  cases y with
  | none => exact h5.elim
  | some y => exact ⟨a, y, h1, h2', ⟨_, h3, hy⟩, h5⟩
theorem EV.cell {x : Str} {pos : Pos} {i : Nat} {v : V} (e : fx.cl.lookup x = some i) (ho : σ.hp[i]? = some (.cell (some v))) (q : Q v σ) (hx : fx.env.kindOf x = some .cell := by rfl) (hd : (x == ("__debug__" : Str)) = false := by decide) :
    EV c d fx (eval (.Name x pos) fx.env) σ Q := fun ρ s A _ r => by
  obtain ⟨a, u, h1, h2, h3, h4⟩ := r.1.cellAt e ho
  exact wpAny_Name (wpAny_loadName_cell r.1.kind hx h1 h3 (Post.same r rfl rfl rfl h4 q)) hd
theorem Rel.gNs (r : Rel c fx ρ σ h) : h.Ns fx.env.globals c.mg := by rw [r.glob]; exact r.ok.t.g.keeps r.keep
theorem Rel.bNs (r : Rel c fx ρ σ h) : h.Ns fx.env.builtins c.mb := by rw [r.bltn]; exact r.ok.t.b.keeps r.keep
theorem EV.gbi {x : Str} {pos : Pos} {v : V} {u : Value} (q : Q v σ) (e : nsIn c.K mainGlobals x = some none) (hv : bootBuiltins x = some u) (hu : ∀ ρ h, VR ρ h v u) (hn : x ≠ "__name__")
    (hx : fx.env.kindOf x = some .globalImplicit := by rfl) (hd : (x == ("__debug__" : Str)) = false := by decide) :
    EV c d fx (eval (.Name x pos) fx.env) σ Q := fun ρ s A _ r =>
  Calls.Name_function_global r.1.kind hx (Calls.loadGlobal_builtin r.1.gNs (mg_none_of r.1.ok.k r.1.ok.t.g e) r.1.bNs ((r.1.ok.t.builtins x hn).trans hv) (Post.same r rfl rfl rfl (hu _ _) q)) hd

theorem EV.binop {l r : Expr} {op pos} (h : EV c d fx (eval l fx.env) σ (fun v σ₁ => EV c d fx (eval r fx.env) σ₁ (fun u σ₂ => OV2 c d fx (binaryOp op) v u σ₂ Q))) : EV c d fx (eval (.BinOp l op r pos) fx.env) σ Q := fun ρ s A R r => by
  refine wpAny_BinOp (wpAny_mono (h ρ s A R r) ?_ fun _ _ e => e)
  rintro x s₁ ⟨ρ₁, v, σ₁, p₁, e₁, r₁, v₁, h₁⟩
  refine wpAny_mono (h₁ ρ₁ s₁ A R r₁) ?_ fun _ _ e => e
  rintro y s₂ ⟨ρ₂, u, σ₂, p₂, e₂, r₂, v₂, h₂⟩
  refine wpAny_mono (h₂ ρ₂ s₂ A x y R r₂ (v₁.mono p₂ (r₁.1.immKeep e₂.keep)) v₂) (fun _ _ z => (z.trans p₂ e₂ r₂).trans p₁ e₁ r₁) fun _ _ e => e
theorem EV.cmp {l r : Expr} {op pos} (h : EV c d fx (eval l fx.env) σ (fun v σ₁ => EV c d fx (eval r fx.env) σ₁ (fun u σ₂ => OV2 c d fx (compareOp op) v u σ₂ Q)))
    (hm : behindInMarks op r = false := by with_unfolding_all rfl) : EV c d fx (eval (.Compare l [op] [r] pos) fx.env) σ Q := fun ρ s A R r => by
  refine wpAny_Compare1 (wpAny_mono (h ρ s A R r) ?_ fun _ _ e => e) hm
  rintro x s₁ ⟨ρ₁, v, σ₁, p₁, e₁, r₁, v₁, h₁⟩
  refine wpAny_mono (h₁ ρ₁ s₁ A R r₁) ?_ fun _ _ e => e
  rintro y s₂ ⟨ρ₂, u, σ₂, p₂, e₂, r₂, v₂, h₂⟩
  refine wpAny_mono (h₂ ρ₂ s₂ A x y R r₂ (v₁.mono p₂ (r₁.1.immKeep e₂.keep)) v₂) (fun _ _ z => (z.trans p₂ e₂ r₂).trans p₁ e₁ r₁) fun _ _ e => e

noncomputable def TV (c : Cx) (d : Nat) (fx : Fx) (e : Expr) (σ : St) (Q : Bool → St → Prop) : Prop := UV c d fx (isTrue e fx.env (eval e fx.env)) σ Q
inductive BoolI (Q : Bool → St → Prop) (w : V) (σ : St) : Prop
  | mk (b : Bool) (e : w = .bool b) (q : Q b σ) : BoolI Q w σ
theorem TV.cmp {l r : Expr} {op pos} {Q : Bool → St → Prop} (h : EV c d fx (eval l fx.env) σ (fun v σ₁ => EV c d fx (eval r fx.env) σ₁ (fun u σ₂ => OV2 c d fx (compareOp op) v u σ₂ (BoolI Q))))
    (hm : behindInMarks op r = false := by with_unfolding_all rfl) : TV c d fx (.Compare l [op] [r] pos) σ Q := fun ρ s A R r => by
  refine wpAny_isTrue_Compare1 (wpAny_mono (h ρ s A R r) ?_ fun _ _ e => e) hm
  rintro x s₁ ⟨ρ₁, v, σ₁, p₁, e₁, r₁, v₁, h₁⟩
  refine wpAny_mono (h₁ ρ₁ s₁ A R r₁) ?_ fun _ _ e => e
  rintro y s₂ ⟨ρ₂, u, σ₂, p₂, e₂, r₂, v₂, h₂⟩
  refine wpAny_mono (h₂ ρ₂ s₂ A x y R r₂ (v₁.mono p₂ (r₁.1.immKeep e₂.keep)) v₂) ?_ fun _ _ e => e
  rintro z s₃ ⟨ρ₃, w, σ₃, p₃, e₃, r₃, v₃, b, rfl, h₃⟩
  cases v₃ using VR.boolC
  refine wpAny_truthy_bool ?_
  exact ⟨ρ₃, σ₃, (p₁.trans p₂).trans p₃, (e₁.trans e₂ r₁.1.hasL).trans e₃ r₂.1.hasL, r₃, h₃⟩

theorem OV2.add_int {a b : Int} (q : Q (.int (a + b)) σ) : OV2 c d fx (binaryOp .Add) (.int a) (.int b) σ Q := fun ρ s A x y _ r vx vy => by
  cases vx using VR.intC; cases vy using VR.intC; exact P.add_int (Post.same r rfl rfl rfl (.int _ _) q)
theorem OV2.sub_int {a b : Int} (q : Q (.int (a - b)) σ) : OV2 c d fx (binaryOp .Sub) (.int a) (.int b) σ Q := fun ρ s A x y _ r vx vy => by
  cases vx using VR.intC; cases vy using VR.intC; exact P.sub_int (Post.same r rfl rfl rfl (.int _ _) q)
theorem OV2.mul_int {a b : Int} (hm : IntMulOk a b) (q : Q (.int (a * b)) σ) : OV2 c d fx (binaryOp .Mult) (.int a) (.int b) σ Q := fun ρ s A x y _ r vx vy => by
  cases vx using VR.intC; cases vy using VR.intC; exact P.mul_int (Post.same r rfl rfl rfl (.int _ _) q) hm
theorem OV2.mod_int {a b : Int} (hb : b ≠ 0) (q : Q (.int (a.fmod b)) σ) : OV2 c d fx (binaryOp .Mod) (.int a) (.int b) σ Q := fun ρ s A x y _ r vx vy => by
  cases vx using VR.intC; cases vy using VR.intC; exact PyProof.Rows.mod_int hb (Post.same r rfl rfl rfl (.int _ _) q)
theorem OV2.eq_int {a b : Int} (q : Q (.bool (a == b)) σ) : OV2 c d fx (compareOp .Eq) (.int a) (.int b) σ Q := fun ρ s A x y _ r vx vy => by
  cases vx using VR.intC; cases vy using VR.intC; exact P.eq_int (Post.same r rfl rfl rfl (.bool _) q)
theorem OV2.lt_int {a b : Int} (q : Q (.bool (decide (a < b))) σ) : OV2 c d fx (compareOp .Lt) (.int a) (.int b) σ Q := fun ρ s A x y _ r vx vy => by
  cases vx using VR.intC; cases vy using VR.intC; exact P.lt_int (Post.same r rfl rfl rfl (.bool _) q)
theorem OV2.gt_int {a b : Int} (q : Q (.bool (decide (a > b))) σ) : OV2 c d fx (compareOp .Gt) (.int a) (.int b) σ Q := fun ρ s A x y _ r vx vy => by
  cases vx using VR.intC; cases vy using VR.intC; exact P.gt_int (Post.same r rfl rfl rfl (.bool _) q)
theorem add_post {x y : Str} {t u : Tok} (r : RelS c fx ρ σ s) (hz : x.cps.toList.length + y.cps.toList.length ≤ sizeLine) (q : Q (.str (x.cps.toList ++ y.cps.toList)) σ) :
    (if x.length == 0 then Made.val (.str y u) else if y.length == 0 then Made.val (.str x t) else Made.str (x ++ y)).post (Post c fx ρ s Q) s := by
  have hx : ∀ z : Str, (z.length == 0) = true → z.cps.toList = [] := fun z e => by
    have : z.cps.size = 0 := beq_iff_eq.mp e
    simpa using this
  split
  · rename_i e
    refine Post.same r rfl rfl rfl (.str _ rfl) ?_
    rw [hx x e] at q; exact q
  · split
    · rename_i e
      refine Post.same r rfl rfl rfl (.str _ rfl) ?_
      rw [hx y e, List.append_nil] at q; exact q
    · refine ⟨?_, Post.same r rfl rfl rfl (.str _ ?_) q⟩
      · show (x.cps ++ y.cps).size ≤ sizeLine
        simpa using hz
      · show (x.cps ++ y.cps).toList = _
        simp
theorem OV2.add_str {a b : List Nat} (hz : a.length + b.length ≤ sizeLine) (q : Q (.str (a ++ b)) σ) : OV2 c d fx (binaryOp .Add) (.str a) (.str b) σ Q := fun ρ s A x y _ r vx vy => by
  cases vx using VR.strC with | str t e => cases vy using VR.strC with | str u f => subst e f; exact P.add_str (add_post r hz q)
end
end Mine
namespace Mine
open PySem PySem.W PyProof.Rows

section
variable {c : Cx} {d : Nat} {fx : Fx} {ρ ρ' ρ'' : List Addr} {σ σ' : St} {h h' h'' : Heap} {s s' s₁ : Shared} {A : Around} {Q : V → St → Prop} {X : Fl → St → Prop}
  {loc : List (Str × V)} {hp : List O}

theorem XV.nil (q : X .next σ) : XV c d fx (execs [] fx.env) σ X := fun ρ s A _ r => wpAny_execs_nil ⟨ρ, .next, σ, .refl _ _ _, r, .next, q⟩
noncomputable abbrev thenX (c : Cx) (d : Nat) (fx : Fx) (rest : List Stmt) (X : Fl → St → Prop) : Fl → St → Prop := fun f σ₁ => match f with | .next => XV c d fx (execs rest fx.env) σ₁ X | f => X f σ₁
theorem XV.cons {st : Stmt} {rest : List Stmt} (h : XV c d fx (exec st fx.env) σ (thenX c d fx rest X)) :
    XV c d fx (execs (st :: rest) fx.env) σ X := fun ρ s A R r => by
  refine wpAny_execs_cons (wpAny_mono (h ρ s A R r) ?_ fun _ _ e => e)
  rintro x s₁ ⟨ρ₁, f, σ₁, e₁, r₁, v₁, h₁⟩
  cases v₁ with
  | next => exact wpAny_mono (h₁ ρ₁ s₁ A R r₁) (fun _ _ z => z.trans e₁ r₁) fun _ _ e => e
  | brk => exact ⟨ρ₁, .brk, σ₁, e₁, r₁, .brk, h₁⟩
  | cont => exact ⟨ρ₁, .cont, σ₁, e₁, r₁, .cont, h₁⟩
  | ret v => exact ⟨ρ₁, _, σ₁, e₁, r₁, .ret v, h₁⟩
theorem XV.ret {e : Expr} {pos} (h : EV c d fx (eval e fx.env) σ (fun v σ₁ => X (.ret v) σ₁)) : XV c d fx (exec (.Return (some e) pos) fx.env) σ X := fun ρ s A R r => by
  refine wpAny_Return_some (wpAny_mono (h ρ s A R r) ?_ fun _ _ e => e)
  rintro x s₁ ⟨ρ₁, v, σ₁, p₁, e₁, r₁, v₁, h₁⟩
  exact ⟨ρ₁, _, σ₁, e₁, r₁, .ret v₁, h₁⟩
theorem XV.brk {pos} (q : X .brk σ) : XV c d fx (exec (.Break pos) fx.env) σ X := fun ρ s A _ r => fun _ _ _ => (⟨ρ, .brk, σ, .refl _ _ _, r, .brk, q⟩ : PostX c fx ρ s X .brk s)
theorem XV.ifs {test : Expr} {body orelse : List Stmt} {pos} (h : TV c d fx test σ (fun b σ₁ => if b then XV c d fx (execs body fx.env) σ₁ X else XV c d fx (execs orelse fx.env) σ₁ X)) :
    XV c d fx (exec (.If test body orelse pos) fx.env) σ X := fun ρ s A R r => by
  refine wpAny_If (wpAny_mono (h ρ s A R r) ?_ fun _ _ e => e)
  rintro b s₁ ⟨ρ₁, σ₁, p₁, e₁, r₁, h₁⟩
  cases b with
  | true => exact wpAny_mono (h₁ ρ₁ s₁ A R r₁) (fun _ _ z => z.trans e₁ r₁) fun _ _ e => e
  | false => exact wpAny_mono (h₁ ρ₁ s₁ A R r₁) (fun _ _ z => z.trans e₁ r₁) fun _ _ e => e
theorem XV.expr {e : Expr} {pos} (h : EV c d fx (eval e fx.env) σ (fun _ σ₁ => X .next σ₁)) (hs : swapsWith e none pos.line fx.env = pure false := by rfl) : XV c d fx (exec (.Expr e pos) fx.env) σ X := fun ρ s A R r => by
  refine wpAny_Expr_any (wpAny_mono (h ρ s A R r) ?_ fun _ _ e => e) (by unfold interactive; rw [r.1.kind]; rfl) hs
  rintro x s₁ ⟨ρ₁, v, σ₁, p₁, e₁, r₁, v₁, h₁⟩
  exact ⟨ρ₁, .next, σ₁, e₁, r₁, .next, h₁⟩

theorem storeL {x : Str} {v : V} {u : Value} {R : Unit → Shared → Prop} (r : RelS c fx ρ ⟨loc, hp⟩ s) (hv : VR ρ s.heap v u)
    (q : ∀ s', Ext fx ρ s.heap ρ s'.heap → RelS c fx ρ ⟨put x v loc, hp⟩ s' → R () s') (hx : fx.env.kindOf x = some .local := by rfl) : wpAny c.M A (storeName fx.env x u) R noE s := by
  obtain ⟨m, hm, _⟩ := r.1.loc
  refine wpAny_storeName_local hx hm (fun h' hn hs => q _ (.setLoc hs) ⟨r.1.setLoc hm hn hs hv, r.2⟩) ?_
  rw [r.1.kind]; rfl
theorem storeC {x : Str} {i : Nat} {v : V} {v₀ : Option V} {u : Value} {R : Unit → Shared → Prop} (r : RelS c fx ρ ⟨loc, hp⟩ s) (hv : VR ρ s.heap v u) (e : fx.cl.lookup x = some i) (ho : hp[i]? = some (.cell v₀))
    (q : ∀ s', Ext fx ρ s.heap ρ s'.heap → RelS c fx ρ ⟨loc, hp.set i (.cell (some v))⟩ s' → R () s') (hx : fx.env.kindOf x = some .cell := by rfl) : wpAny c.M A (storeName fx.env x u) R noE s := by
  obtain ⟨a, h1, h2⟩ := r.1.cells.look e
  have h2' := pre_get r.1.pre h2
  obtain ⟨x', h3, h4⟩ := r.1.obj i a _ h2' ho
  obtain ⟨y, hy, h5⟩ := h4
  unfold storeName
  rw [hx, r.1.kind]
  refine wpAny_bind (wpAny_cellOf h1 ?_)
  unfold cellSet
  refine wpAny_bind (wpAny_load h3 ?_)
  rw [hy]
  refine wpAny_update h3 ?_
  have hs : Keep [a] s.heap (s.heap.update a fun o => { o with data := .cell (some u) }) := .of_sameBut (Heap.SameBut.update ..)
  have hg : (s.heap.update a fun o => { o with data := .cell (some u) }).get? a = some { x' with data := .cell (some u) } := Heap.get?_update_self _ h3 rfl
  have k : ImmKeep s.heap (s.heap.update a fun o => { o with data := .cell (some u) }) := r.1.toHRel.immKeep (hs.sub fun b m => by rw [List.mem_singleton] at m; subst m; exact mem_of_get? h2')
  exact q _ (.upd h2' hs) ⟨r.1.upd h2' hs hg ⟨some u, rfl, hv.mono (List.prefix_refl _) k⟩ (.of ho), r.2⟩
theorem XV.assign {x : Str} {pos' value pos} (h : EV c d fx (eval value fx.env) σ (fun v σ₁ => X .next ⟨put x v σ₁.loc, σ₁.hp⟩)) (hx : fx.env.kindOf x = some .local := by rfl)
    (hs : swapsWith value (some (.Name x pos')) pos.line fx.env = pure false := by rfl) : XV c d fx (exec (.Assign [.Name x pos'] value pos) fx.env) σ X := fun ρ s A R r => by
  refine wpAny_Assign_Name (wpAny_mono (h ρ s A R r) ?_ fun _ _ e => e) hs
  rintro y s₁ ⟨ρ₁, v, σ₁, p₁, e₁, r₁, v₁, h₁⟩
  exact storeL r₁ v₁ (fun s' e' r' => ⟨ρ₁, .next, _, e₁.trans e' r₁.1.hasL, r', .next, h₁⟩) hx
theorem XV.aug {x : Str} {pos' op value pos} {v₀ : V} (e : σ.loc.lookup x = some v₀) (h : EV c d fx (eval value fx.env) σ (fun v σ₁ => OV2 c d fx (inplaceOp op) v₀ v σ₁ (fun w σ₂ => X .next ⟨put x w σ₂.loc, σ₂.hp⟩)))
    (hx : fx.env.kindOf x = some .local := by rfl) : XV c d fx (exec (.AugAssign (.Name x pos') op value pos) fx.env) σ X := fun ρ s A R r => by
  obtain ⟨m, hm, hv⟩ := r.1.loc
  obtain ⟨u, h1, h2⟩ := hv x v₀ e
  refine wpAny_AugAssign_Name (wpAny_loadName_local r.1.kind hx hm h1 (wpAny_mono (h ρ s A R r) ?_ fun _ _ e => e))
  rintro y s₁ ⟨ρ₁, v, σ₁, p₁, e₁, r₁, v₁, h₁⟩
  refine wpAny_mono (h₁ ρ₁ s₁ A u y R r₁ (h2.mono p₁ (r.1.immKeep e₁.keep)) v₁) ?_ fun _ _ e => e
  rintro z s₂ ⟨ρ₂, w, σ₂, p₂, e₂, r₂, v₂, h₂⟩
  exact storeL r₂ v₂ (fun s' e' r' => ⟨ρ₂, .next, _, (e₁.trans e₂ r₁.1.hasL).trans e' r₂.1.hasL, r', .next, h₂⟩) hx

theorem EVs.nil {pos : Pos} {Q : List V → St → Prop} (q : Q [] σ) : EVs c d fx (spliced (backTo pos (starEach [] fx.env))) σ Q := fun ρ s A _ r => args_nil ⟨ρ, [], σ, List.prefix_refl _, .refl _ _ _, r, .nil, q⟩
noncomputable def starless : Expr → Bool
  | .Starred _ _ => false
  | _ => true
theorem starEach_cons {e : Expr} {rest : List Expr} {env : Env} (h : starless e = true) : starEach (e :: rest) env = (false, eval e env) :: starEach rest env := by
  cases e <;> first | (simp only [starEach]; done) | (simp [starless] at h; done)
theorem EVs.cons {e : Expr} {rest : List Expr} {pos : Pos} {Q : List V → St → Prop} (h : EV c d fx (eval e fx.env) σ (fun v σ₁ => EVs c d fx (spliced (backTo pos (starEach rest fx.env))) σ₁ (fun vs σ₂ => Q (v :: vs) σ₂)))
    (hst : starless e = true := by rfl) : EVs c d fx (spliced (backTo pos (starEach (e :: rest) fx.env))) σ Q := fun ρ s A R r => by
  have he := starEach_cons (rest := rest) (env := fx.env) hst
  refine args_cons (wpAny_mono (h ρ s A R r) ?_ fun _ _ e => e) he
  rintro x s₁ ⟨ρ₁, v, σ₁, p₁, e₁, r₁, v₁, h₁⟩
  refine wpAny_mono (h₁ ρ₁ s₁ A R r₁) ?_ fun _ _ e => e
  rintro xs s₂ ⟨ρ₂, vs, σ₂, p₂, e₂, r₂, v₂, h₂⟩
  exact ⟨ρ₂, v :: vs, σ₂, p₁.trans p₂, e₁.trans e₂ r₁.1.hasL, r₂, .cons (v₁.mono p₂ (r₁.1.immKeep e₂.keep)) v₂, h₂⟩

theorem EV.tuple {elts : List Expr} {k : Nat} {pos : Pos} (h : EVs c d fx (spliced (backTo pos (starEach elts fx.env))) σ (fun vs σ₁ => vs.length ≤ 1000 ∧ Q (.tup vs) σ₁)) : EV c d fx (eval (.Tuple elts k pos) fx.env) σ Q := fun ρ s A R r => by
  refine Tuple_ (wpAny_mono (h ρ s A R r) ?_ fun _ _ e => e)
  rintro xs s₁ ⟨ρ₁, vs, σ₁, p₁, e₁, r₁, v₁, hl, h₁⟩
  have hn : xs.length ≤ sizeLine := by rw [← v₁.length, sizeLine_eq]; omega
  refine wpAny_newTuple ?_ hn
  refine ⟨ρ₁, .tup vs, σ₁, p₁, e₁.trans (.push _) r₁.1.hasL, ⟨r₁.1.push _, r₁.2⟩, .tup (Heap.get?_push_size _ rfl) (v₁.mono (List.prefix_refl _) fun _ _ _ e => Heap.get?_push_of_some _ e), h₁⟩
theorem EV.list {elts : List Expr} {pos : Pos} (h : EVs c d fx (spliced (backTo pos (starEach elts fx.env))) σ (fun vs σ₁ => vs.length ≤ 1000 ∧ Q (.ref σ₁.hp.length) ⟨σ₁.loc, σ₁.hp ++ [.list vs]⟩)) : EV c d fx (eval (.List elts pos) fx.env) σ Q := fun ρ s A R r => by
  refine List_ (wpAny_mono (h ρ s A R r) ?_ fun _ _ e => e)
  rintro xs s₁ ⟨ρ₁, vs, ⟨loc₁, hp₁⟩, p₁, e₁, r₁, v₁, hl, h₁⟩
  have hn : xs.length ≤ sizeLine := by rw [← v₁.length, sizeLine_eq]; omega
  refine wpAny_newObj_type ?_ (by show xs.toArray.size ≤ sizeLine; rw [List.size_toArray]; exact hn)
  have ho : OR (ρ₁ ++ [s₁.heap.objs.size]) (s₁.heap.push (listObj xs.toArray 0)) (.list vs) (listObj xs.toArray 0) := ⟨xs, 0, rfl, v₁.mono (pre_snoc ..) fun _ _ _ e => Heap.get?_push_of_some _ e⟩
  refine ⟨ρ₁ ++ [s₁.heap.objs.size], .ref hp₁.length, _, p₁.trans (pre_snoc ..), e₁.trans (.alloc _) r₁.1.hasL, ⟨r₁.1.alloc rfl ho, r₁.2⟩, .ref ?_, h₁⟩
  rw [← r₁.1.len, List.getElem?_append_right (Nat.le_refl _)]; simp
end
end Mine
namespace Mine
open PySem PySem.W PyProof.Rows

structure FExt (ρ : List Addr) (h : Heap) (ρ' : List Addr) (h' : Heap) : Prop where
  pre : ρ <+: ρ'
  new : ∀ a ∈ ρ', a ∈ ρ ∨ h.get? a = none
  keep : Keep ρ h h'
inductive FPost (c : Cx) (ρ : List Addr) (s : Shared) (Q : V → List O → Prop) (r : Result) (s' : Shared) : Prop
  | mk (ρ' : List Addr) (v : V) (hp' : List O) (y : Value) (e : r = .ok (.ret y)) (x : FExt ρ s.heap ρ' s'.heap) (hr : HRelS c ρ' hp' s') (hv : VR ρ' s'.heap v y) (q : Q v hp') : FPost c ρ s Q r s'
noncomputable def FV (c : Cx) (k : Nat) (f : V) (vs : List V) (hp : List O) (Q : V → List O → Prop) : Prop :=
  ∀ ρ s A x xs, Room c k A → c.Ok → HRelS c ρ hp s → VR ρ s.heap f x → VRs ρ s.heap vs xs → codeAny c.M A (.call x ⟨xs, []⟩) (FPost c ρ s Q) s

section
variable {c : Cx} {d k : Nat} {fx : Fx} {ρ ρ' ρ'' : List Addr} {σ σ' : St} {h h' h'' : Heap} {s s' s₁ : Shared} {A : Around} {Q : V → St → Prop} {X : Fl → St → Prop}
  {loc : List (Str × V)} {hp hp' : List O}

theorem FV.mono {f : V} {vs : List V} {Q Q' : V → List O → Prop} (h : FV c k f vs hp Q) (hq : ∀ v hp', Q v hp' → Q' v hp') : FV c k f vs hp Q' :=
  fun ρ s A x xs R ok r vf va => codeAny_mono (h ρ s A x xs R ok r vf va) fun _ _ ⟨ρ', v, hp', y, e, e1, r1, v1, q⟩ => ⟨ρ', v, hp', y, e, e1, r1, v1, hq _ _ q⟩
theorem FV.le {f : V} {vs : List V} {Q : V → List O → Prop} {k' : Nat} (h : FV c k f vs hp Q) (hk : k ≤ k') : FV c k' f vs hp Q :=
  fun ρ s A x xs R ok r vf va => h ρ s A x xs (R.le hk) ok r vf va

theorem Rel.after (r : Rel c fx ρ ⟨loc, hp⟩ h) (e : FExt ρ h ρ' h') (r' : HRel c ρ' hp' h') : Rel c fx ρ' ⟨loc, hp'⟩ h' := by
  have k : ImmKeep h h' := r.toHRel.immKeep e.keep
  obtain ⟨m, ⟨o₁, es, ep, hL, hr⟩, hv⟩ := r.loc
  exact { toHRel := r', ok := r.ok, loc := ⟨m, ⟨o₁, es, ep, e.keep _ _ r.lapart hL, hr⟩, fun x v q => let ⟨u, h1, h2⟩ := hv x v q; ⟨u, h1, h2.mono e.pre k⟩⟩,
          lfresh := r.lfresh,
          lapart := fun m => by
            rcases e.new _ m with m | z
            · exact r.lapart m
            · rw [hL] at z; cases z
          pre := r.pre.trans e.pre, glob := r.glob, bltn := r.bltn, kind := r.kind, cells := r.cells }
theorem FExt.ext (e : FExt ρ h ρ' h') : Ext fx ρ h ρ' h' := ⟨e.new, e.keep.sub fun _ m => .tail _ m⟩

theorem callFV {f : V} {x : Value} {vs : List V} {xs : List Value} (R : Room c d A) (hk : k ≤ d) (r : RelS c fx ρ σ s) (vf : VR ρ s.heap f x) (va : VRs ρ s.heap vs xs)
    (h : FV c k f vs σ.hp (fun v hp' => Q v ⟨σ.loc, hp'⟩)) : wpAny c.M A (call x xs) (Post c fx ρ s Q) noE s := by
  obtain ⟨loc, hp⟩ := σ
  refine wpAny_call (codeAny_mono (h ρ s A x xs (R.le hk) r.1.ok ⟨r.1.toHRel, r.2⟩ vf va) ?_)
  rintro _ s' ⟨ρ', v, hp', y, rfl, e, r', hv, q⟩
  exact ⟨ρ', v, ⟨loc, hp'⟩, e.pre, e.ext, ⟨r.1.after e r'.1, r'.2⟩, hv, q⟩

noncomputable def plainArgs : List Expr → Bool
  | [] => true
  | .Starred _ _ :: _ => false
  | _ :: r => plainArgs r
theorem star_plain {env : Env} : ∀ {args : List Expr}, plainArgs args = true → starEach args env = args.map fun e => (false, eval e env)
  | [], _ => rfl
  | e :: r, q => by
    cases e <;> first | (simp only [plainArgs] at q; cases q) | (simp only [plainArgs] at q; simp only [starEach, List.map_cons, star_plain q])
theorem backTo_plain {pos : Pos} {env : Env} (args : List Expr) : backTo pos (args.map fun e => (false, eval e env)) = args.map fun e => (false, eval e env) := by
  unfold backTo
  rw [List.map_map]
  rfl
theorem any_plain {env : Env} (args : List Expr) : (args.map fun e => (false, eval e env)).any (·.1) = false := by
  induction args with
  | nil => rfl
  | cons e r ih => simp only [List.map_cons, List.any_cons, ih]; rfl
theorem evalArgs_V {M : Model} {E : Value → Shared → Prop} {env : Env} {f : Value} {R : Args → Shared → Prop} (args : List Expr)
    (h : wpAny M A (spliced (args.map fun e => (false, eval e env))) (fun vs s' => R ⟨vs, []⟩ s') E s) : wpAny M A (evalArgs f true (args.map fun e => (false, eval e env)) []) R E s := by
  cases args with
  | nil =>
    unfold evalArgs
    show wpAny M A (spliced [] >>= _) R E s
    refine wpAny_bind (wpAny_mono h (fun vs s' h' => ?_) fun _ _ x => x)
    refine wpAny_holding ?_
    exact wpAny_bind (wpAny_pure (wpAny_bind (wpAny_pure (wpAny_pure h'))))
  | cons e r => exact Calls.evalArgs_plain h
theorem callWithV {pos : Pos} {f : Value} {first : List Value} {args : List Expr} {P : Heap → Prop} {G : List V → St → Prop} (R : Room c d A) (r : RelS c fx ρ σ s) (hpl : plainArgs args = true)
    (hk : ∀ h, P h → ∃ k, (k = Keeper.frame ∨ k = Keeper.machine ∨ k = Keeper.boundFrame) ∧ Looks c.M h (keeperOf f) k)
    (h : EVs c d fx (spliced (backTo pos (starEach args fx.env))) σ G)
    (hP : ∀ ρ' s' σ' vs, ρ <+: ρ' → Ext fx ρ s.heap ρ' s'.heap → RelS c fx ρ' σ' s' → G vs σ' → P s'.heap)
    (hc : ∀ ρ' s' vs xs σ', ρ <+: ρ' → Ext fx ρ s.heap ρ' s'.heap → RelS c fx ρ' σ' s' → VRs ρ' s'.heap vs xs → G vs σ' → wpAny c.M A (call f (first ++ xs)) (Post c fx ρ' s' Q) noE s') :
    wpAny c.M A (callWith pos f first (backTo pos (starEach args fx.env)) []) (Post c fx ρ s Q) noE s := by
  have hh := h ρ s A R r
  rw [star_plain hpl, backTo_plain] at hh ⊢
  refine callWith_of (P := P) (by rw [any_plain]; rfl) hk (evalArgs_V args (wpAny_mono hh ?_ fun _ _ e => e))
  rintro xs s₁ ⟨ρ₁, vs, σ₁, p₁, e₁, r₁, v₁, h₁⟩
  exact ⟨hP ρ₁ s₁ σ₁ vs p₁ e₁ r₁ h₁, wpAny_mono (hc ρ₁ s₁ vs xs σ₁ p₁ e₁ r₁ v₁ h₁) (fun _ _ z => z.trans p₁ e₁ r₁) fun _ _ e => e⟩

theorem EV.call {x : Str} {np pos : Pos} {args : List Expr} {a : Addr} (k : Nat) (e : nsIn c.K mainGlobals x = some (some (.ref a))) (hk : keepIn c.K (.ref a) = true)
    (h : EVs c d fx (spliced (backTo pos (starEach args fx.env))) σ (fun vs σ₂ => FV c k (.top a) vs σ₂.hp (fun v hp' => Q v ⟨σ₂.loc, hp'⟩)))
    (hkd : k ≤ d := by decide) (hpl : plainArgs args = true := by rfl) (hx : fx.env.kindOf x = some .globalImplicit := by rfl) (hd : (x == ("__debug__" : Str)) = false := by decide) :
    EV c d fx (eval (.Call (.Name x np) args [] pos) fx.env) σ Q := fun ρ s A R r => by
  refine Call_ ?_
  refine Calls.Name_function_global r.1.kind hx (Calls.loadGlobal_global r.1.gNs (mg_of r.1.ok.k r.1.ok.t.g e) ?_) hd
  refine callWithV (P := fun h => c.K.In h) R r hpl (fun h X => keeps_K hk h X) h (fun ρ' s' σ' vs p e r' _ => r'.1.ok.k.keeps r'.1.keep) fun ρ' s' vs xs σ' p e r' va hf => ?_
  exact callFV R hkd r' (.top a) va hf
theorem EV.callB {x : Str} {np pos : Pos} {args : List Expr} {id : String} (e : nsIn c.K mainGlobals x = some none) (hv : bootBuiltins x = some (.builtin id)) (hn : x ≠ "__name__")
    (h : EVs c d fx (spliced (backTo pos (starEach args fx.env))) σ (fun vs σ₂ => OVs c d fx (fun xs => PySem.call (.builtin id) xs) vs σ₂ Q))
    (hpl : plainArgs args = true := by rfl) (hx : fx.env.kindOf x = some .globalImplicit := by rfl) (hd : (x == ("__debug__" : Str)) = false := by decide) :
    EV c d fx (eval (.Call (.Name x np) args [] pos) fx.env) σ Q := fun ρ s A R r => by
  refine Call_ ?_
  refine Calls.Name_function_global r.1.kind hx (Calls.loadGlobal_builtin r.1.gNs (mg_none_of r.1.ok.k r.1.ok.t.g e) r.1.bNs ((r.1.ok.t.builtins x hn).trans hv) ?_) hd
  exact callWithV (P := fun _ => True) R r hpl (fun h _ => ⟨.machine, .inr (.inl rfl), Looks.of_pure rfl⟩) h (fun _ _ _ _ _ _ _ _ => trivial) fun ρ' s' vs xs σ' p e r' va hf => hf ρ' s' A xs R r' va
theorem EV.callT {x : Str} {np pos : Pos} {args : List Expr} {id : String} (e : nsIn c.K mainGlobals x = some none) (hv : bootBuiltins x = some (.type id)) (hn : x ≠ "__name__")
    (h : EVs c d fx (spliced (backTo pos (starEach args fx.env))) σ (fun vs σ₂ => OVs c d fx (fun xs => PySem.call (.type id) xs) vs σ₂ Q))
    (hpl : plainArgs args = true := by rfl) (hx : fx.env.kindOf x = some .globalImplicit := by rfl) (hd : (x == ("__debug__" : Str)) = false := by decide) :
    EV c d fx (eval (.Call (.Name x np) args [] pos) fx.env) σ Q := fun ρ s A R r => by
  refine Call_ ?_
  refine Calls.Name_function_global r.1.kind hx (Calls.loadGlobal_builtin r.1.gNs (mg_none_of r.1.ok.k r.1.ok.t.g e) r.1.bNs ((r.1.ok.t.builtins x hn).trans hv) ?_) hd
  exact callWithV (P := fun _ => True) R r hpl (fun h _ => ⟨.machine, .inr (.inl rfl), Looks.of_pure rfl⟩) h (fun _ _ _ _ _ _ _ _ => trivial) fun ρ' s' vs xs σ' p e r' va hf => hf ρ' s' A xs R r' va

theorem NsR.get {ρ : List Addr} {h : Heap} {n : Str} {v : V} : ∀ {kvs : List (Str × V)} {es : List DictEntry}, NsR ρ h kvs es → kvs.lookup n = some v → ∃ x, getL n es = some (some x) ∧ VR ρ h v x
  | [], [], _, e => by cases e
  | (m, u) :: kvs, en :: es, r, e => by
    obtain ⟨⟨t, hk⟩, hv, hr⟩ := r
    rw [List.lookup_cons] at e
    unfold getL
    rw [List.find?_cons, hk]
    cases hb : n == m with
    | true =>
      rw [hb] at e; cases e
      have := beq_iff_eq.mp hb; subst this
      have : Value.isStr (.str n t) n = true := by simp [Value.isStr]
      rw [this]; exact ⟨_, rfl, hv⟩
    | false =>
      rw [hb] at e
      have : Value.isStr (.str m t) n = false := by
        simp only [Value.isStr]
        cases q : m == n with
        | false => rfl
        | true => rw [beq_iff_eq.mp q] at hb; simp at hb
      rw [this]
      obtain ⟨x, h1, h2⟩ := NsR.get hr e
      unfold getL at h1
      dsimp only
      cases hf : es.find? (·.key.isStr n) with
      | none => rw [hf] at h1; dsimp only at h1; split at h1 <;> cases h1
      | some e' => rw [hf] at h1; exact ⟨x, h1, h2⟩
  | _ :: _, [], r, _ => r.elim
  | [], _ :: _, r, _ => r.elim
theorem NsR.noRef {ρ : List Addr} {h : Heap} : ∀ {kvs : List (Str × V)} {es : List DictEntry}, NsR ρ h kvs es → es.any (·.refKey) = false
  | [], [], _ => rfl
  | (m, u) :: kvs, en :: es, r => by
    obtain ⟨⟨t, hk⟩, hv, hr⟩ := r
    rw [List.any_cons, hr.noRef, Bool.or_false]
    unfold DictEntry.refKey; rw [hk]
  | _ :: _, [], r => r.elim
  | [], _ :: _, r => r.elim
theorem NsR.put {ρ : List Addr} {h : Heap} {n : Str} {hsh : Int} {t : Tok} {v : V} {x : Value} (hv : VR ρ h v x) : ∀ {kvs : List (Str × V)} {es : List DictEntry}, NsR ρ h kvs es → NsR ρ h (put n v kvs) (putL n hsh (.str n t) x es)
  | [], [], _ => ⟨⟨t, rfl⟩, hv, trivial⟩
  | (m, u) :: kvs, en :: es, r => by
    obtain ⟨⟨t', hk⟩, hu, hr⟩ := r
    unfold Mine.put putL
    rw [hk]
    cases hb : n == m with
    | true =>
      have := beq_iff_eq.mp hb; subst this
      have : Value.isStr (.str n t') n = true := by simp [Value.isStr]
      rw [this]; exact ⟨⟨t', rfl⟩, hv, hr⟩
    | false =>
      have : Value.isStr (.str m t') n = false := by
        simp only [Value.isStr]
        cases q : m == n with
        | false => rfl
        | true => rw [beq_iff_eq.mp q] at hb; simp at hb
      rw [this]; exact ⟨⟨t', hk⟩, hu, NsR.put hv hr⟩
  | _ :: _, [], r => r.elim
  | [], _ :: _, r => r.elim
theorem NsR.length {ρ : List Addr} {h : Heap} : ∀ {kvs : List (Str × V)} {es : List DictEntry}, NsR ρ h kvs es → kvs.length = es.length
  | [], [], _ => rfl
  | _ :: _, _ :: _, r => congrArg (· + 1) (NsR.length r.2.2)
  | _ :: _, [], r => r.elim
  | [], _ :: _, r => r.elim
noncomputable def V.handed : V → Bool
  | .bi id => (withoutEnding? id "#data").isNone
  | _ => true
theorem VR.handed {v : V} {x : Value} (r : VR ρ h v x) (e : v.handed = true) : handedIn x = true := by
  cases r <;> first | rfl | exact e

theorem putL_len (name : Str) (hsh : Int) (key v : Value) : ∀ es : List DictEntry, (putL name hsh key v es).length ≤ es.length + 1
  | [] => by simp [putL]
  | e :: r => by
    have := putL_len name hsh key v r
    unfold putL; split <;> simp <;> omega
end
end Mine
namespace Mine
open PySem PySem.W PyProof.Rows

section
variable {c : Cx} {d k : Nat} {fx : Fx} {ρ ρ' ρ'' : List Addr} {σ σ' : St} {h h' h'' : Heap} {s s' s₁ : Shared} {A : Around} {Q : V → List O → Prop} {X : Fl → St → Prop}
  {loc : List (Str × V)} {hp hp' : List O}

theorem lookup_snoc {α : Type} {x n : Str} {a : α} {l : List (Str × α)} : (l ++ [(n, a)]).lookup x = (l.lookup x).or (if x == n then some a else none) := by
  rw [List.lookup_append, List.lookup_cons]
  cases l.lookup x <;> cases x == n <;> rfl
theorem lookup_none_of {α : Type} {x : Str} : ∀ {l : List (Str × α)}, x ∉ l.map (·.1) → l.lookup x = none
  | [], _ => rfl
  | (n, a) :: r, h => by
    rw [List.lookup_cons]
    have : (x == n) = false := by
      cases q : x == n with
      | false => rfl
      | true => exact absurd (beq_iff_eq.mp q ▸ .head _) h
    rw [this]; exact lookup_none_of fun m => h (.tail _ m)
theorem lookup_rev {α : Type} {x : Str} : ∀ {l : List (Str × α)}, (l.map (·.1)).Nodup → l.reverse.lookup x = l.lookup x
  | [], _ => rfl
  | (n, a) :: r, h => by
    rw [List.map_cons, List.nodup_cons] at h
    rw [List.reverse_cons, lookup_snoc, lookup_rev h.2, List.lookup_cons]
    cases hb : x == n with
    | true =>
      rw [lookup_none_of (by rw [beq_iff_eq.mp hb]; exact h.1)]; rfl
    | false => simp
theorem zip_keys {α : Type} : ∀ {ns : List Str} {xs : List α}, ns.length = xs.length → (ns.zip xs).map (·.1) = ns
  | [], [], _ => rfl
  | n :: ns, x :: xs, e => by simp only [List.zip_cons_cons, List.map_cons, zip_keys (Nat.succ.inj e)]
theorem VRs.zipLook {ρ : List Addr} {h : Heap} {x : Str} {v : V} : ∀ {ns : List Str} {vs : List V} {xs : List Value}, VRs ρ h vs xs → (ns.zip vs).lookup x = some v → ∃ u, (ns.zip xs).lookup x = some u ∧ VR ρ h v u
  | [], _, _, _, e => by cases e
  | n :: ns, _, _, .nil, e => by cases e
  | n :: ns, _, _, .cons a b, e => by
    rw [List.zip_cons_cons, List.lookup_cons] at e ⊢
    cases hb : x == n with
    | true => rw [hb] at e; cases e; exact ⟨_, rfl, a⟩
    | false => rw [hb] at e; exact b.zipLook e
noncomputable abbrev retQ (Q : V → List O → Prop) : Fl → St → Prop := fun fl σ => match fl with | .ret v => Q v σ.hp | .next => Q .none σ.hp | _ => False
theorem Rel.enter {env : Env} {cl : List (Str × Nat)} {ns : List Str} {vs : List V} {xs : List Value} (ok : c.Ok) (r : HRel c ρ hp h) (hL : env.locals = h.objs.size) (hg : env.globals = mainGlobals) (hb : env.builtins = builtinsNs) (hk : env.scope.kind = .function)
    (hc : ClR ρ cl env.cells) (va : VRs ρ h vs xs) (hl : ns.length = vs.length) (hnd : ns.Nodup) (hn : h'.Ns env.locals (fun x => (ns.zip xs).reverse.lookup x)) (hkeep : ∀ b o, h.get? b = some o → h'.get? b = some o) :
    Rel c ⟨env, cl, ρ⟩ ρ ⟨ns.zip vs, hp⟩ h' :=
  { toHRel := r.ext hkeep, ok := ok,
    loc := ⟨_, hn, fun x v e => by
      obtain ⟨u, h1, h2⟩ := va.zipLook e
      refine ⟨u, ?_, h2.mono (List.prefix_refl _) fun _ _ _ e => hkeep _ _ e⟩
      rw [lookup_rev (by rw [zip_keys (hl.trans va.length)]; exact hnd)]; exact h1⟩
    lfresh := by show c.H₀.get? env.locals = none; rw [hL]; exact r.size₀ (Nat.le_refl _)
    lapart := fun m => by
      have := r.lt m
      rw [show (⟨env, cl, ρ⟩ : Fx).env.locals = h.objs.size from hL] at this
      exact Nat.lt_irrefl _ this
    pre := List.prefix_refl _, glob := hg, bltn := hb, kind := hk, cells := hc }

noncomputable def flV : Flow → Value
  | .ret v => v
  | _ => .none
theorem FPost.of {env : Env} {cl : List (Str × Nat)} {x : Flow} {s₀ s : Shared} (hk : ∀ b o, s₀.heap.get? b = some o → s.heap.get? b = some o) (hL : s₀.heap.get? env.locals = none)
    (h : PostX c ⟨env, cl, ρ⟩ ρ s (retQ Q) x s') : FPost c ρ s₀ Q (.ok (.ret (flV x))) s' := by
  obtain ⟨ρ', f, σ', e, r, hf, q⟩ := h
  have fe : FExt ρ s₀.heap ρ' s'.heap := by
    refine ⟨r.1.pre, fun a m => ?_, fun b o n z => e.keep b o (fun m => ?_) (hk b o z)⟩
    · rcases e.new a m with m | z
      · exact .inl m
      · right
        cases y : s₀.heap.get? a with
        | none => rfl
        | some o => rw [hk _ _ y] at z; cases z
    · rcases List.mem_cons.mp m with rfl | m
      · rw [z] at hL; cases hL
      · exact n m
  cases hf with
  | next => exact ⟨ρ', .none, σ'.hp, .none, rfl, fe, ⟨r.1.toHRel, r.2⟩, .none, q⟩
  | brk => exact q.elim
  | cont => exact q.elim
  | ret hv => exact ⟨ρ', _, σ'.hp, _, rfl, fe, ⟨r.1.toHRel, r.2⟩, hv, q⟩

theorem FV.def {a : Addr} {name qual : Str} {params : Arguments} {body : List Stmt} {scope : Scope} {dV kV doc pm cd ct oc : Value} {an od : Option Addr} {osl : Array (Option Value)} {ns : List Str} {vs : List V}
    (hK : c.K.lookup a = some ⟨oc, od, .func (fnX name qual params body scope [] dV kV doc pm an cd ct), osl⟩) (hcd : codeIn c.K cd qual = true)
    (hb : ∀ xs : List Value, ns.length = xs.length → bindArgs (fnX name qual params body scope [] dV kV doc pm an cd ct) ⟨xs, []⟩ = pure (ns.zip xs)) (hl : ns.length = vs.length) (hnd : ns.Nodup)
    (hloc : ∀ n ∈ ns, scope.names.lookup n = some .local) (hcell : ∀ x ∈ scope.names, x.2 ≠ .cell)
    (h : ∀ L ρ₀, ρ₀.length = hp.length → XV c k ⟨envX qual scope L a cd [], [], ρ₀⟩ (execs body (envX qual scope L a cd [])) ⟨ns.zip vs, hp⟩ (retQ Q))
    (hco : scope.isCoroutine = false := by rfl) (hgen : scope.isGenerator = false := by rfl) (hk : scope.kind = .function := by rfl) :
    FV c (k + 1) (.top a) vs hp Q := fun ρ s A x xs R ok r vf va => by
  cases vf using VR.topC
  have X := ok.k.keeps r.1.keep
  refine codeAny_call_def (fd := fnX name qual params body scope [] dV kV doc pm an cd ct) R.limit (X _ _ hK) rfl (ok.t.nolimit.keeps r.1.keep) (codeRec_of X hcd) rfl (.of_eq (hb xs (hl.trans va.length))) hcell (fun y hy => hloc _ ?_) (fun h₁ hn hk₁ => ?_) hco hgen hk
  · obtain ⟨n, v⟩ := y
    exact (List.of_mem_zip hy).1
  · have hw := h s.heap.objs.size ρ r.1.len ρ { s with heap := h₁, toks := s.toks + (ns.zip xs).length } (A.deeper (envX qual scope s.heap.objs.size a cd [])) (R.deeper _)
      ⟨Rel.enter (env := envX qual scope s.heap.objs.size a cd []) ok r.1 rfl rfl rfl hk trivial va hl hnd hn hk₁, r.2⟩
    refine wpAny_mono hw (fun fl s' z => ?_) fun _ _ z => z.elim
    have := FPost.of (env := envX qual scope s.heap.objs.size a cd []) (cl := []) hk₁ (get_none_of_lt (Nat.le_refl _)) z
    cases fl <;> exact this
theorem filter_lookup {α : Type} {p : Str → Bool} {x : Str} : ∀ {l : List (Str × α)} {v : α}, (l.filter fun q => p q.1).lookup x = some v → p x = true ∧ l.lookup x = some v
  | [], _, e => by cases e
  | (n, a) :: r, v, e => by
    rw [List.filter_cons] at e
    cases hp : p n with
    | true =>
      simp only [hp, if_true] at e
      rw [List.lookup_cons] at e ⊢
      cases hb : x == n with
      | true => rw [hb] at e; cases e; exact ⟨by rw [beq_iff_eq.mp hb]; exact hp, rfl⟩
      | false => rw [hb] at e; exact filter_lookup e
    | false =>
      simp only [hp, Bool.false_eq_true, if_false] at e
      obtain ⟨h1, h2⟩ := filter_lookup e
      refine ⟨h1, ?_⟩
      rw [List.lookup_cons]
      have : (x == n) = false := by
        cases q : x == n with
        | false => rfl
        | true => rw [beq_iff_eq.mp q, hp] at h1; cases h1
      rw [this]; exact h2

end
theorem len1 {α β : Type} {n : α} {xs : List β} (h : [n].length = xs.length) : ∃ x, xs = [x] := by
  cases xs with
  | nil => cases h
  | cons x r => cases r with
    | nil => exact ⟨x, rfl⟩
    | cons _ _ => cases h
theorem len2 {α β : Type} {n m : α} {xs : List β} (h : [n, m].length = xs.length) : ∃ x y, xs = [x, y] := by
  cases xs with
  | nil => cases h
  | cons x r => obtain ⟨y, rfl⟩ := len1 (n := n) (xs := r) (Nat.succ.inj h); exact ⟨x, y, rfl⟩
theorem len3 {α β : Type} {n m k : α} {xs : List β} (h : [n, m, k].length = xs.length) : ∃ x y z, xs = [x, y, z] := by
  cases xs with
  | nil => cases h
  | cons x r => obtain ⟨y, z, rfl⟩ := len2 (n := n) (m := n) (xs := r) (Nat.succ.inj h); exact ⟨x, y, z, rfl⟩
end Mine
namespace Mine
open PySem PySem.W PyProof.Rows

section
variable {c : Cx} {d k : Nat} {fx : Fx} {ρ ρ' ρ'' : List Addr} {σ σ' : St} {h h' h'' : Heap} {s s' s₁ : Shared} {A : Around} {Q : V → St → Prop} {X : Fl → St → Prop}
  {loc loc' : List (Str × V)} {hp hp' : List O}

theorem XV.while_ {test : Expr} {body : List Stmt} {pos : Pos} (I : Nat → St → Prop) (n : Nat) (h0 : I n σ)
    (turn : ∀ n σ, I n σ → TV c d fx test σ (fun b σ₁ => if b then XV c d fx (execs body fx.env) σ₁ (fun f σ₂ => match f with
        | .next => ∃ m, m < n ∧ I m σ₂
        | .cont => ∃ m, m < n ∧ I m σ₂
        | .brk => X .next σ₂
        | .ret v => X (.ret v) σ₂) else X .next σ₁)) : XV c d fx (exec (.While test body [] pos) fx.env) σ X := fun ρ s A R r => by
  refine wpAny_While (codeAny_whileLoop (fun n s' => ∃ ρ' σ', Ext fx ρ s.heap ρ' s'.heap ∧ RelS c fx ρ' σ' s' ∧ I n σ') ?_ n ⟨ρ, σ, .refl _ _ _, r, h0⟩)
  rintro n s₁ ⟨ρ₁, σ₁, e₁, r₁, hI⟩
  refine wpAny_mono (turn n σ₁ hI ρ₁ s₁ A R r₁) ?_ fun _ _ z => z.elim
  rintro b s₂ ⟨ρ₂, σ₂, p₂, e₂, r₂, h₂⟩
  cases b with
  | true =>
    refine wpAny_mono (h₂ ρ₂ s₂ A R r₂) ?_ fun _ _ z => z.elim
    rintro f s₃ ⟨ρ₃, fl, σ₃, e₃, r₃, hf, h₃⟩
    have ee := (e₁.trans e₂ r₁.1.hasL).trans e₃ r₂.1.hasL
    cases hf with
    | next => obtain ⟨m, hm, hi⟩ := h₃; exact ⟨m, hm, ρ₃, σ₃, ee, r₃, hi⟩
    | cont => obtain ⟨m, hm, hi⟩ := h₃; exact ⟨m, hm, ρ₃, σ₃, ee, r₃, hi⟩
    | brk => exact ⟨ρ₃, .next, σ₃, ee, r₃, .next, h₃⟩
    | ret hv => exact ⟨ρ₃, _, σ₃, ee, r₃, .ret hv, h₃⟩
  | false => exact wpAny_execs_nil ⟨ρ₂, .next, σ₂, e₁.trans e₂ r₁.1.hasL, r₂, .next, h₂⟩

theorem OU1.name {x : Str} {pos : Pos} {v : V} {Q : St → Prop} (q : Q ⟨put x v σ.loc, σ.hp⟩) (hx : fx.env.kindOf x = some .local := by rfl) : OU1 c d fx (fun y => assign (.Name x pos) fx.env y) v σ (fun _ σ' => Q σ') := fun ρ s A y _ r hv => by
  show wpAny c.M A (PySem.assign (.Name x pos) fx.env y) _ _ s
  rw [PySem.assign_Name]
  exact wpAny_bind (wpAny_standAt (wpAny_bindName (storeL r hv (fun s' e' r' => ⟨ρ, _, List.prefix_refl _, e', r', q⟩) hx)))
structure It (c : Cx) (ρ₀ : List Addr) (it : Addr) (n : Nat) (item : Nat → V) (C : St → Prop) (J : Nat → Heap → Prop) : Prop where
  next : ∀ fx i ρ σ s A (R : Option Value → Shared → Prop) (E : Value → Shared → Prop), i < n → A.handled = c.hd.map Value.ref → C σ → ρ₀ <+: ρ → RelS c fx ρ σ s → J i s.heap →
    (∀ x h' tk, VR ρ h' (item i) x → J (i + 1) h' → Keep [it] s.heap h' → R (some x) { s with heap := h', toks := tk }) → wpAny c.M A (pyNext (.ref it)) R E s
  done : ∀ fx ρ σ s A (R : Option Value → Shared → Prop) (E : Value → Shared → Prop), A.handled = c.hd.map Value.ref → C σ → ρ₀ <+: ρ → RelS c fx ρ σ s → J n s.heap →
    (∀ h' tk, Keep [it] s.heap h' → R none { s with heap := h', toks := tk }) → wpAny c.M A (pyNext (.ref it)) R E s
  self : ∀ i (s : Shared) A (R : Value → Shared → Prop) (E : Value → Shared → Prop), J i s.heap → R (.ref it) s → wpAny c.M A (pyIter (.ref it)) R E s
  keep : ∀ i h h', J i h → (∀ o, h.get? it = some o → h'.get? it = some o) → ImmKeep h h' → J i h'
  at_ : ∀ i h, J i h → ∃ o, h.get? it = some o ∧ ¬ Fix o
theorem Rel.floor (r : Rel c fx ρ σ h) {ρ₀ : List Addr} (h1 : fx.ρ₀ <+: ρ₀) (h2 : ρ₀ <+: ρ) : Rel c { fx with ρ₀ := ρ₀ } ρ σ h :=
  { toHRel := r.toHRel, ok := r.ok, loc := r.loc, lfresh := r.lfresh, lapart := r.lapart, pre := h2, glob := r.glob, bltn := r.bltn, kind := r.kind, cells := r.cells.mono h1 }
theorem Rel.unfloor {ρ₀ : List Addr} (h1 : fx.ρ₀ <+: ρ₀) (hc : ClR fx.ρ₀ fx.cl fx.env.cells) (r : Rel c { fx with ρ₀ := ρ₀ } ρ σ h) : Rel c fx ρ σ h :=
  { toHRel := r.toHRel, ok := r.ok, loc := r.loc, lfresh := r.lfresh, lapart := r.lapart, pre := h1.trans r.pre, glob := r.glob, bltn := r.bltn, kind := r.kind, cells := hc }

noncomputable abbrev forX (I : Nat → St → Prop) (i : Nat) (X : Fl → St → Prop) : Fl → St → Prop := fun f σ₂ => match f with
  | .next => I (i + 1) σ₂
  | .cont => I (i + 1) σ₂
  | .brk => X .next σ₂
  | .ret v => X (.ret v) σ₂
theorem forIt {target : Expr} {body : List Stmt} {it : Addr} {n : Nat} {item : Nat → V} {C : St → Prop} {J : Nat → Heap → Prop} {s₀ : Shared} {E : Value → Shared → Prop} (R : Room c d A) (T : It c ρ it n item C J) (r : RelS c fx ρ σ s)
    (e₀ : Ext fx ρ s₀.heap ρ s.heap) (hnew : s₀.heap.get? it = none) (hit : it ∉ ρ) (hit0 : c.H₀.get? it = none) (hitL : it ≠ fx.env.locals) (hJ : J 0 s.heap)
    (I : Nat → St → Prop) (h0 : I 0 σ) (hC : ∀ i σ, I i σ → C σ)
    (turn : ∀ i σ, i < n → I i σ → OU1 c d { fx with ρ₀ := ρ } (fun y => PySem.assign target fx.env y) (item i) σ (fun _ σ₁ => XV c d { fx with ρ₀ := ρ } (execs body fx.env) σ₁ (forX I i X)))
    (fin : ∀ σ, I n σ → X .next σ) (ht : ∀ v, letOwnedTupleGo target (.ref it) v = pure ()) :
    codeAny c.M A (.forLoop target (.ref it) body [] fx.env) (fun r s' => match r with | .ok f => PostX c fx ρ s₀ X f s' | .error e => cameBackBy c.M A fx.env E e s') s := by
  have hcl := r.1.cells
  have hpre := r.1.pre
  refine codeAny_forLoop (fun m s' => ∃ i ρ' σ', n - i = m ∧ i ≤ n ∧ Ext fx ρ s₀.heap ρ' s'.heap ∧ it ∉ ρ' ∧ RelS c { fx with ρ₀ := ρ } ρ' σ' s' ∧ J i s'.heap ∧ I i σ') ?_ n ⟨0, ρ, σ, rfl, Nat.zero_le _, e₀, hit, ⟨r.1.floor r.1.pre (List.prefix_refl _), r.2⟩, hJ, h0⟩ ht
  rintro m s₁ ⟨i, ρ₁, σ₁, hm, hin, e₁, hit1, r₁, j₁, hI⟩
  obtain ⟨oi, hoi, hnf⟩ := T.at_ _ _ j₁
  have side : ∀ h', Keep [it] s₁.heap h' → Rel c { fx with ρ₀ := ρ } ρ₁ σ₁ h' := fun h' k => r₁.1.side k (fun b m => by rw [List.mem_singleton] at m; subst m; exact hit0) (fun b m => by rw [List.mem_singleton] at m; subst m; exact hit1)
    (fun m => by rw [List.mem_singleton] at m; exact hitL m.symm) (fun b m o e => by rw [List.mem_singleton] at m; subst m; rw [hoi] at e; cases e; exact hnf)
  have ext : ∀ h', Keep [it] s₁.heap h' → Ext fx ρ s₀.heap ρ₁ h' := fun h' k =>
    ⟨e₁.new, fun b o nb e => k b o (fun m => by rw [List.mem_singleton] at m; subst m; rw [hnew] at e; cases e) (e₁.keep b o nb e)⟩
  rcases Nat.lt_or_eq_of_le hin with hlt | rfl
  · refine T.next { fx with ρ₀ := ρ } i ρ₁ σ₁ s₁ A _ _ hlt R.handled (hC _ _ hI) r₁.1.pre r₁ j₁ fun x h' tk hx j' k' => ?_
    have r₂ : RelS c { fx with ρ₀ := ρ } ρ₁ σ₁ { s₁ with heap := h', toks := tk } := ⟨side h' k', r₁.2⟩
    refine wpAny_mono (turn i σ₁ hlt hI ρ₁ { s₁ with heap := h', toks := tk } A x R r₂ hx) ?_ fun _ _ z => z.elim
    rintro _ s₂ ⟨ρ₂, σ₂, p₂, e₂, r₂', h₂⟩
    have hit2 : it ∉ ρ₂ := fun q => by
      rcases e₂.new it q with q | q
      · exact hit1 q
      · obtain ⟨o, ho, _⟩ := T.at_ _ _ j'; rw [show h'.get? it = none from q] at ho; cases ho
    have k2 : ∀ o, h'.get? it = some o → s₂.heap.get? it = some o := fun o e => e₂.keep it o (fun m => by
      rcases List.mem_cons.mp m with q | q
      · exact hitL q
      · exact hit1 q) e
    have j₂ : J (i + 1) s₂.heap := T.keep _ _ _ j' k2 (r₂.1.immKeep e₂.keep)
    refine wpAny_mono (h₂ ρ₂ s₂ A R r₂') ?_ fun _ _ z => z.elim
    rintro f s₃ ⟨ρ₃, fl, σ₃, e₃, r₃, hf, h₃⟩
    have hit3 : it ∉ ρ₃ := fun q => by
      rcases e₃.new it q with q | q
      · exact hit2 q
      · obtain ⟨o, ho, _⟩ := T.at_ _ _ j₂; rw [q] at ho; cases ho
    have k3 : ∀ o, s₂.heap.get? it = some o → s₃.heap.get? it = some o := fun o e => e₃.keep it o (fun m => by
      rcases List.mem_cons.mp m with q | q
      · exact hitL q
      · exact hit2 q) e
    have j₃ : J (i + 1) s₃.heap := T.keep _ _ _ j₂ k3 (r₂'.1.immKeep e₃.keep)
    have e₂' : Ext fx ρ₁ h' ρ₂ s₂.heap := ⟨e₂.new, e₂.keep⟩
    have e₃' : Ext fx ρ₂ s₂.heap ρ₃ s₃.heap := ⟨e₃.new, e₃.keep⟩
    have hL2 : ∃ o, h'.get? fx.env.locals = some o := r₂.1.hasL
    have hL3 : ∃ o, s₂.heap.get? fx.env.locals = some o := r₂'.1.hasL
    have ee : Ext fx ρ s₀.heap ρ₃ s₃.heap := ((ext h' k').trans e₂' hL2).trans e₃' hL3
    have r₃' : RelS c fx ρ₃ σ₃ s₃ := ⟨r₃.1.unfloor hpre hcl, r₃.2⟩
    cases hf with
    | next => exact ⟨n - (i + 1), by omega, i + 1, ρ₃, σ₃, rfl, hlt, ee, hit3, r₃, j₃, h₃⟩
    | cont => exact ⟨n - (i + 1), by omega, i + 1, ρ₃, σ₃, rfl, hlt, ee, hit3, r₃, j₃, h₃⟩
    | brk => exact ⟨ρ₃, .next, σ₃, ee, r₃', .next, h₃⟩
    | ret hv => exact ⟨ρ₃, _, σ₃, ee, r₃', .ret hv, h₃⟩
  · refine T.done { fx with ρ₀ := ρ } ρ₁ σ₁ s₁ A _ _ R.handled (hC _ _ hI) r₁.1.pre r₁ j₁ fun h' tk k' => ?_
    exact wpAny_execs_nil ⟨ρ₁, .next, σ₁, ext h' k', ⟨(side h' k').unfloor hpre hcl, r₁.2⟩, .next, fin _ hI⟩

theorem notFix_of {o : Obj} {T : String} (h : o.cls = .type T) (ht : (T != "tuple" && T != "method" && T != "code") = true) : ¬ Fix o := fun f => by
  simp only [Bool.and_eq_true, bne_iff_ne, ne_eq] at ht
  rcases f with ⟨_, _, rfl⟩ | ⟨_, _, rfl⟩ | ⟨e, _⟩
  · simp at h; exact ht.1.1 h.symm
  · simp at h; exact ht.1.2 h.symm
  · rw [h] at e; simp at e; exact ht.2 e
theorem unchain_none {prog : Program} {w : World} {e a : Addr} {o : Obj} {Q : Value → Shared → Prop} {E : Value → Shared → Prop} (ho : s.heap.get? a = some o) (hz : CtxNone o) (q : Q .none s) :
    wpAny (model prog w) A (runValue (.builtin "proto.unchain" ⟨[.ref e, .ref a, .ref a, .bool false], []⟩)) Q E s := by
  obtain ⟨vs, h1, h2⟩ := hz
  refine wpAny_runValue (codeAny_builtin (b := Builtin.«proto.unchain») (entryFor_of_tree (by kernel_rfl)) ?_)
  show wpAny _ _ (field (.ref a) 2 >>= _) _ _ s
  refine wpAny_bind (wpAny_field ho h1 h2 ?_)
  exact wpAny_pure q
theorem raise_stop {α : Type} {prog : Program} {w : World} {e : Addr} {oe : Obj} {ws : Array Value} {hd : Option Addr} {P : α → Shared → Prop} {E : Value → Shared → Prop} (hh : A.handled = hd.map Value.ref) (hz : ∀ a, hd = some a → ∃ o, s.heap.get? a = some o ∧ CtxNone o)
    (he : s.heap.get? e = some oe) (hew : oe.data = .fields ws) (hwz : 2 < ws.size) (hne : ∀ a, hd = some a → a ≠ e) (q : ∀ h' oe', Keep [e] s.heap h' → h'.get? e = some oe' → oe'.cls = oe.cls → E (.ref e) { s with heap := h' }) :
    wpAny (model prog w) A (raiseNew (α := α) (.ref e)) P E s := by
  simp only [raiseNew]
  refine wpAny_bind (wpAny_handled ?_)
  rw [hh]
  cases hd with
  | none => exact wpAny_bind (wpAny_pure (wpAny_throw (q _ _ (.refl _ _) he rfl)))
  | some a =>
    obtain ⟨o, ho, hz⟩ := hz a rfl
    have hb : (Value.ref a != Value.ref e) = true := by simp [hne a rfl]
    dsimp only [Option.map]
    rw [if_pos hb]
    refine wpAny_bind (wpAny_holding (unchain_none ho hz ?_))
    refine wpAny_bind ?_
    unfold updateField
    refine wpAny_bind (wpAny_load he ?_)
    rw [hew]
    dsimp only
    rw [if_pos hwz]
    refine wpAny_update he (wpAny_throw ?_)
    exact q _ _ (.of_sameBut (Heap.SameBut.update ..)) (Heap.get?_update_self _ he (Obj.isFreed_of_fields (Obj.data_mapFields hew _))) (Obj.cls_mapFields ..)
theorem stop_wp {α : Type} {prog : Program} {w : World} {s : Shared} {hd : Option Addr} {P : α → Shared → Prop} {R : Option Value → Shared → Prop} {E : Value → Shared → Prop} (hh : A.handled = hd.map Value.ref) (hz : ∀ a, hd = some a → ∃ o, s.heap.get? a = some o ∧ CtxNone o)
    (h : ∀ h', (∀ b o, s.heap.get? b = some o → h'.get? b = some o) → R none { s with heap := h' }) :
    wpAny (model prog w) A.in1 (Builtin.SmallTypes.stopIteration (α := α)) P (fun e s' => wpAny (model prog w) A (do if ← isInstance e (.type "StopIteration") then pure none else throw e) R E s') s := by
  show wpAny _ _ (newExc (.type "StopIteration") [] >>= _) _ _ _
  refine wpAny_bind ?_
  simp only [newExc, newTuple]
  refine wpAny_bind (wpAny_newObj_type ?_ (by size_fits))
  refine wpAny_bind (m := firstArgMember _ _) (wpAny_of_eq (a := Value.none) (by first | rfl | (simp only [firstArgMember]; rfl)) ?_)
  refine wpAny_newObj_type ?_ (by size_fits)
  have lt : ∀ b o, s.heap.get? b = some o → b ≠ (s.heap.push { cls := .type "tuple", data := .seq #[] }).objs.size := fun b o e q => by
    have l1 := Heap.lt_size e
    rw [Heap.size_push] at q
    rw [q] at l1
    exact absurd l1 (Nat.not_lt.mpr (Nat.le_succ _))
  refine raise_stop (hd := hd) hh (fun a e => ?_) (Heap.get?_push_size _ rfl) rfl (by simp; omega) (fun a e => ?_) fun h' oe' hk ho' hc' => ?_
  · obtain ⟨o', h1, h2⟩ := hz a e
    exact ⟨o', Heap.get?_push_of_some _ (Heap.get?_push_of_some _ h1), h2⟩
  · obtain ⟨o', h1, h2⟩ := hz a e
    exact lt a _ h1
  · refine wpAny_bind (wpAny_isInstance (T := "StopIteration") (b := true) ⟨_, ho', hc'.trans rfl⟩ isSubtype_stop ?_)
    refine wpAny_pure (h _ fun b o' e => hk b o' (fun m => ?_) ?_)
    · exact lt b _ e (List.mem_singleton.mp m)
    · exact Heap.get?_push_of_some _ (Heap.get?_push_of_some _ e)
theorem ctx_other {it a : Addr} {o : Obj} {x y : Value} (ho : s.heap.get? it = some o) (hd' : o.data = .fields #[x, y]) {v : Value} (z : ∃ o, s.heap.get? a = some o ∧ CtxNone o) : ∃ o, (s.heap.update it (Obj.mapFields fun x => x.setIfInBounds 0 v)).get? a = some o ∧ CtxNone o := by
  obtain ⟨o', h1, h2⟩ := z
  refine ⟨o', (Heap.get?_update_ne _ _ _ _ fun q => ?_).trans h1, h2⟩
  obtain ⟨vs, z1, z2⟩ := h2
  rw [q, ho] at h1; cases h1
  rw [hd'] at z1; cases z1; cases z2
theorem list_end {prog : Program} {w : World} {it l : Addr} {i : Nat} {items : Array Value} {hd : Option Addr} {R : Option Value → Shared → Prop} {E : Value → Shared → Prop} (hh : A.handled = hd.map Value.ref) (hz : ∀ a, hd = some a → ∃ o, s.heap.get? a = some o ∧ CtxNone o)
    (hit : s.heap.IsListIter it l i) (hl : s.heap.IsList l items) (hx : items[i]? = none)
    (hQ : ∀ h', Keep [it] s.heap h' → R none { s with heap := h' }) : wpAny (model prog w) A (pyNext (.ref it)) R E s := by
  obtain ⟨o, ho, hc, hd'⟩ := id hit
  obtain ⟨ol, hol, _, nl, hdl⟩ := hl
  unfold pyNext
  refine wpAny_bind (wpAny_attempt (wpAny_callSpecial?_slot (name := Str.ofString "__next__") hit.typeIs slot_listiter_next
    (wpAny_call_entry slot_listiter_next hit.typeIs entry_listiter_next ?_ (args_listiter_next _))))
  show wpAny _ _ (field (.ref it) 0 >>= _) _ _ s
  refine wpAny_bind (wpAny_field ho hd' (x := .ref l) rfl ?_)
  show wpAny _ _ (if (Value.ref l == Value.none) = true then _ else _) _ _ s
  rw [if_neg (show ¬ ((Value.ref l == Value.none) = true) from Bool.false_ne_true)]
  show wpAny _ _ (field (.ref it) 1 >>= _) _ _ s
  refine wpAny_bind (wpAny_field ho hd' (x := .int i 0) rfl ?_)
  show wpAny _ _ (seqItems? (.ref l) >>= _) _ _ s
  refine wpAny_bind (wpAny_seqItems hol hdl ?_)
  simp only [Int.toNat_natCast, hx]
  refine wpAny_bind (wpAny_rule (wpAny_bind (wpAny_setField ho hd' (by simp) ?_)))
  exact stop_wp (s := { s with heap := s.heap.update it _ }) hh (fun a e => ctx_other ho hd' (hz a e)) fun h' hk => hQ _ fun b o' hb e => hk b o' ((Heap.get?_update_ne _ _ _ _ (fun q => hb (by rw [q]; exact .head _))).trans e)
theorem tup_end {prog : Program} {w : World} {it l : Addr} {i : Nat} {items : Array Value} {hd : Option Addr} {R : Option Value → Shared → Prop} {E : Value → Shared → Prop} (hh : A.handled = hd.map Value.ref) (hz : ∀ a, hd = some a → ∃ o, s.heap.get? a = some o ∧ CtxNone o)
    (hit : s.heap.IsTupleIter it l i) (hl : s.heap.IsTuple l items) (hx : items[i]? = none)
    (hQ : ∀ h', Keep [it] s.heap h' → R none { s with heap := h' }) : wpAny (model prog w) A (pyNext (.ref it)) R E s := by
  obtain ⟨o, ho, hc, hd'⟩ := id hit
  obtain ⟨ol, hol, _, nl, hdl⟩ := hl
  unfold pyNext
  refine wpAny_bind (wpAny_attempt (wpAny_callSpecial?_slot (name := Str.ofString "__next__") hit.typeIs F.slot_tuple_iterator_next
    (wpAny_call_entry F.slot_tuple_iterator_next hit.typeIs F.entry_tuple_iterator_next ?_ (F.args_tuple_iterator_next_1 _))))
  show wpAny _ _ (field (.ref it) 0 >>= _) _ _ s
  refine wpAny_bind (wpAny_field ho hd' (x := .ref l) rfl ?_)
  show wpAny _ _ (if (Value.ref l == Value.none) = true then _ else _) _ _ s
  rw [if_neg (show ¬ ((Value.ref l == Value.none) = true) from Bool.false_ne_true)]
  show wpAny _ _ (field (.ref it) 1 >>= _) _ _ s
  refine wpAny_bind (wpAny_field ho hd' (x := .int i 0) rfl ?_)
  show wpAny _ _ (seqItems? (.ref l) >>= _) _ _ s
  refine wpAny_bind (wpAny_seqItems hol hdl ?_)
  simp only [Int.toNat_natCast, hx]
  refine wpAny_bind (wpAny_rule (wpAny_bind (wpAny_setField ho hd' (by simp) ?_)))
  exact stop_wp (s := { s with heap := s.heap.update it _ }) hh (fun a e => ctx_other ho hd' (hz a e)) fun h' hk => hQ _ fun b o' hb e => hk b o' ((Heap.get?_update_ne _ _ _ _ (fun q => hb (by rw [q]; exact .head _))).trans e)
theorem unpackItems_tup {prog : Program} {w : World} {t : Addr} {items : Array Value} {hd : Option Addr} {R : List Value → Shared → Prop} {E : Value → Shared → Prop} (hh : A.handled = hd.map Value.ref) (hz : ∀ a, hd = some a → ∃ o, s.heap.get? a = some o ∧ CtxNone o) (ht : s.heap.IsTuple t items)
    (hQ : ∀ h', (∀ b o, s.heap.get? b = some o → h'.get? b = some o) → R items.toList { s with heap := h' }) : wpAny (model prog w) A (unpackItems (.ref t) items.size none) R E s := by
  have hlt : t ≠ s.heap.objs.size := by obtain ⟨o, ho, _⟩ := ht; exact Nat.ne_of_lt (Heap.lt_size ho)
  unfold unpackItems
  refine wpAny_bind ?_
  unfold notIterableAtAll
  refine wpAny_bind (wpAny_specialOf ht.typeIs F.slot_tuple_iter.lookup ?_)
  refine wpAny_pure ?_
  simp only [Bool.false_eq_true, if_false]
  refine wpAny_bind (wpAny_holding (wpAny_pyIter_tuple ht ?_))
  refine wpAny_bind (wpAny_holding (wpAny_draw_tuple hlt items.size 0 _ _ ⟨_, Heap.get?_push_size _ rfl, rfl, rfl⟩ (ht.push _) (by omega) fun h₁ hit₁ hs₁ => ?_))
  have hall : List.take items.size (List.drop 0 items.toList) = items.toList := by
    rw [List.drop_zero]; exact List.take_of_length_le (by simp)
  rw [hall]
  rw [if_neg (by simp)]
  have ht₁ : h₁.IsTuple t items := (ht.push _).extBut hs₁.extBut hlt
  have kk : ∀ b o, s.heap.get? b = some o → h₁.get? b = some o := fun b o e => hs₁.extBut b o (Nat.ne_of_lt (Heap.lt_size e)) (Heap.get?_push_of_some _ e)
  refine wpAny_bind (wpAny_holding (tup_end (s := { s with heap := h₁ }) hh (fun a e => let ⟨o, h1, h2⟩ := hz a e; ⟨o, kk _ _ h1, h2⟩) hit₁ ht₁ (by simp) fun h₂ he₂ => ?_))
  simp only [Option.isSome_none, Bool.false_eq_true, if_false]
  exact wpAny_pure (hQ h₂ fun b o e => he₂ b o (fun m => Nat.ne_of_lt (Heap.lt_size e) (List.mem_singleton.mp m)) (kk b o e))
theorem assign_tup {prog : Program} {w : World} {env : Env} {elts : List Expr} {x1 : Nat} {pos : Pos} {t : Addr} {items : Array Value} {hd : Option Addr} {R : Unit → Shared → Prop} {E : Value → Shared → Prop} (hh : A.handled = hd.map Value.ref) (hz : ∀ a, hd = some a → ∃ o, s.heap.get? a = some o ∧ CtxNone o) (ht : s.heap.IsTuple t items)
    (hn : (assignEach elts env).length = items.size) (hstar : (assignEach elts env).findIdx? (·.1) = none)
    (h : ∀ h', (∀ b o, s.heap.get? b = some o → h'.get? b = some o) → wpAny (model prog w) A (assignInOrder ((assignEach elts env).map (·.2)) items.toList) R E { s with heap := h' }) :
    wpAny (model prog w) A (PySem.assign (.Tuple elts x1 pos) env (.ref t)) R E s := by
  rw [arm_assign_Tuple]
  refine wpAny_bind (wpAny_standAt ?_)
  unfold unpack
  rw [hn, hstar]
  exact wpAny_bind (wpAny_holding (unpackItems_tup hh hz ht h))
theorem It.list {l : Nat} {vs : List V} {a it : Addr} (hl : ρ[l]? = some a) : It c ρ it vs.length (fun i => vs.getD i .none) (fun σ => σ.hp[l]? = some (.list vs)) (fun i h => h.IsListIter it a i) where
  next := fun fx i ρ' σ s A R E hi hh hC hp r hJ q => by
    obtain ⟨x, h1, xs, n, rfl, h2⟩ := r.1.obj l a _ (pre_get hp hl) hC
    have hi' : i < xs.length := h2.length ▸ hi
    obtain ⟨y, hy, hv⟩ := h2.get (i := i) (u := vs.getD i .none) (by rw [List.getD_eq_getElem?_getD, List.getElem?_eq_getElem hi]; rfl)
    refine wpAny_pyNext_list_item hJ ⟨_, h1, rfl, n, rfl⟩ (x := y) (by simpa using hy) fun h' hit hs => ?_
    have k : Keep [it] s.heap h' := .of_sameBut hs
    refine q y h' s.toks (hv.mono (List.prefix_refl _) fun b o f e => k b o (fun m => ?_) e) hit k
    rw [List.mem_singleton] at m; subst m
    obtain ⟨o', e1, e2, e3⟩ := hJ
    rw [e] at e1; cases e1
    exact notFix_of e2 (by decide) f
  done := fun fx ρ' σ s A R E hh hC hp r hJ q => by
    obtain ⟨x, h1, xs, n, rfl, h2⟩ := r.1.obj l a _ (pre_get hp hl) hC
    exact list_end hh (fun a e => (r.1.held a e).2) hJ ⟨_, h1, rfl, n, rfl⟩ (by simp [h2.length]) fun h' hx => q h' s.toks hx
  self := fun i s A R E hJ h => wpAny_pyIter_listiter hJ h
  keep := fun i h h' hJ k _ => let ⟨o, e, r⟩ := hJ; ⟨o, k o e, r⟩
  at_ := fun i h ⟨o, e, e2, e3⟩ => ⟨o, e, notFix_of e2 (by decide)⟩
theorem It.topList {xs : List Value} {vs : List V} {a it : Addr} (hl : c.H₀.IsList a xs.toArray) (hv : ∀ ρ h, VRs ρ h vs xs) : It c ρ it vs.length (fun i => vs.getD i .none) (fun σ => True) (fun i h => h.IsListIter it a i) where
  next := fun fx i ρ' σ s A R E hi hh hC hp r hJ q => by
    have hi' : i < xs.length := (hv [] s.heap).length ▸ hi
    have hl' : s.heap.IsList a xs.toArray := let ⟨o, e, y⟩ := hl; ⟨o, r.1.keep _ _ e, y⟩
    refine wpAny_pyNext_list_item hJ hl' (x := xs[i]) (by simp [hi']) fun h' hit hs => ?_
    obtain ⟨y, hy, hv'⟩ := (hv ρ' h').get (i := i) (u := vs.getD i .none) (by rw [List.getD_eq_getElem?_getD, List.getElem?_eq_getElem hi]; rfl)
    have : y = xs[i] := by rw [List.getElem?_eq_getElem hi'] at hy; exact (Option.some.inj hy).symm
    subst this
    exact q _ h' s.toks hv' hit (.of_sameBut hs)
  done := fun fx ρ' σ s A R E hh hC hp r hJ q => by
    have hl' : s.heap.IsList a xs.toArray := let ⟨o, e, y⟩ := hl; ⟨o, r.1.keep _ _ e, y⟩
    exact list_end hh (fun a e => (r.1.held a e).2) hJ hl' (by simp [(hv [] s.heap).length]) fun h' hx => q h' s.toks hx
  self := fun i s A R E hJ h => wpAny_pyIter_listiter hJ h
  keep := fun i h h' hJ k _ => let ⟨o, e, r⟩ := hJ; ⟨o, k o e, r⟩
  at_ := fun i h ⟨o, e, e2, e3⟩ => ⟨o, e, notFix_of e2 (by decide)⟩

end
end Mine
namespace Mine
open PySem PySem.W PyProof.Rows PySem.SeqAt

section
variable {c : Cx} {d k : Nat} {fx : Fx} {ρ ρ' ρ'' : List Addr} {σ σ' : St} {h h' h'' : Heap} {s s' s₁ : Shared} {A : Around} {Q : V → St → Prop} {X : Fl → St → Prop}
  {loc loc' : List (Str × V)} {hp hp' : List O}

theorem str_eq_of {x : Str} {l : List Nat} (e : x.cps.toList = l) : x = ⟨l.toArray⟩ := by
  subst e; cases x; simp

theorem seqIndex_of {k : Int} {n : Nat} (h0 : 0 ≤ k) (h1 : k < n) : seqIndex? k n = some k.toNat := by
  unfold seqIndex?
  have h2 : ¬ k < 0 := by omega
  simp only [h2, if_false, h0, h1, decide_true, Bool.and_self, if_true]
theorem EV.sub {value slice : Expr} {pos : Pos} (h : EV c d fx (eval value fx.env) σ (fun v σ₁ => EV c d fx (eval slice fx.env) σ₁ (fun u σ₂ => OV2 c d fx (fun o i => subscriptTail value slice o i) v u σ₂ Q))) :
    EV c d fx (eval (.Subscript value slice pos) fx.env) σ Q := fun ρ s A R r => by
  refine Subscript_ (wpAny_mono (h ρ s A R r) ?_ fun _ _ e => e)
  rintro x s₁ ⟨ρ₁, v, σ₁, p₁, e₁, r₁, v₁, h₁⟩
  refine wpAny_mono (h₁ ρ₁ s₁ A R r₁) ?_ fun _ _ e => e
  rintro y s₂ ⟨ρ₂, u, σ₂, p₂, e₂, r₂, v₂, h₂⟩
  exact wpAny_mono (h₂ ρ₂ s₂ A x y R r₂ (v₁.mono p₂ (r₁.1.immKeep e₂.keep)) v₂) (fun _ _ z => (z.trans p₂ e₂ r₂).trans p₁ e₁ r₁) fun _ _ e => e
theorem HRel.list (r : HRel c ρ hp h) {i : Nat} {vs : List V} (e : hp[i]? = some (.list vs)) : ∃ a xs n, ρ[i]? = some a ∧ h.get? a = some (listObj (List.toArray xs) n) ∧ VRs ρ h vs xs ∧ h.IsList a xs.toArray := by
  obtain ⟨a, x, h1, h2, xs, n, rfl, h3⟩ := r.at e
  exact ⟨a, xs, n, h1, h2, h3, _, h2, rfl, n, rfl⟩
noncomputable def SubOk (slice : Expr) : Prop := ∀ o i : Value, ∃ ops, subscripted slice false o i = operate ops (getItem o i)
theorem OV2.item {value slice : Expr} {l : Nat} {vs : List V} {k : Int} {v : V} (ho : σ.hp[l]? = some (.list vs)) (h0 : 0 ≤ k) (hv : vs[k.toNat]? = some v) (hb : vs.length < 2 ^ 62) (q : Q v σ) (hs : SubOk slice := by intro _ _; exact ⟨_, rfl⟩) :
    OV2 c d fx (fun o i => subscriptTail value slice o i) (.ref l) (.int k) σ Q := fun ρ s A x y R r vx vy => by
  cases vx using VR.refC with
  | ref ha =>
    cases vy using VR.intC with
    | int t =>
      rename_i b
      obtain ⟨a, xs, n, h1, h2, h3, h4⟩ := r.1.toHRel.list ho
      have eab : b = a := Option.some.inj (ha.symm.trans h1)
      subst eab
      obtain ⟨y, hy, hv'⟩ := h3.get hv
      obtain ⟨ops, hs⟩ := hs (.ref b) (.int k t)
      have hlt := (List.getElem?_eq_some_iff.mp hv).1
      exact tail_any h4.typeIs slot_list_getitem.lookup (wpAny_getItem_list h4 h0 (by omega) (by simpa using hy) (Post.same r rfl rfl rfl hv' q)) hs
theorem OV2.itemN {value slice : Expr} {l : Nat} {vs : List V} {k : Int} {v : V} (ho : σ.hp[l]? = some (.list vs)) (h0 : k < 0) (h1 : 0 ≤ k + vs.length) (hv : vs[(k + vs.length).toNat]? = some v) (hb : vs.length < 2 ^ 62) (q : Q v σ) (hs : SubOk slice := by intro _ _; exact ⟨_, rfl⟩) :
    OV2 c d fx (fun o i => subscriptTail value slice o i) (.ref l) (.int k) σ Q := fun ρ s A x y R r vx vy => by
  cases vx using VR.refC with
  | ref ha =>
    cases vy using VR.intC with
    | int t =>
      rename_i b
      obtain ⟨a, xs, n, g1, h2, h3, h4⟩ := r.1.toHRel.list ho
      have eab : b = a := Option.some.inj (ha.symm.trans g1)
      subst eab
      obtain ⟨y, hy, hv'⟩ := h3.get hv
      obtain ⟨ops, hs⟩ := hs (.ref b) (.int k t)
      have hl : xs.toArray.size = vs.length := by simp [h3.length]
      exact tail_any h4.typeIs slot_list_getitem.lookup (wpAny_getItem_list_neg h4 h0 (by rw [hl]; omega) (by omega) (by rw [hl]; simpa using hy) (Post.same r rfl rfl rfl hv' q)) hs
theorem OV2.itemT {value slice : Expr} {vs : List V} {k : Int} {v : V} (h0 : 0 ≤ k) (hv : vs[k.toNat]? = some v) (hb : vs.length < 2 ^ 62) (q : Q v σ) (hs : SubOk slice := by intro _ _; exact ⟨_, rfl⟩) :
    OV2 c d fx (fun o i => subscriptTail value slice o i) (.tup vs) (.int k) σ Q := fun ρ s A x y R r vx vy => by
  cases vx using VR.tupC with
  | tup ha hx =>
    rename_i a xs n
    cases vy using VR.intC with
    | int t =>
      obtain ⟨y, hy, hv'⟩ := hx.get hv
      obtain ⟨ops, hs⟩ := hs (.ref a) (.int k t)
      have hlt := (List.getElem?_eq_some_iff.mp hy).1
      have hlt' := (List.getElem?_eq_some_iff.mp hv).1
      have ht : IsTup s.heap a xs.toArray := ⟨_, ha, rfl, n, rfl⟩
      refine tail_any ht.typeIs slot_tuple_getitem.lookup (getItem_tuple (j := k.toNat) ht (by omega) (by omega) ?_ (by simpa using hy) (Post.same r rfl rfl rfl hv' q)) hs
      have : (xs.toArray.size : Nat) = xs.length := by simp
      rw [this, seqIndex_of h0 (by omega)]
theorem OV2.itemS {value slice : Expr} {l : List Nat} {k : Int} {n : Nat} (h0 : 0 ≤ k) (hv : l[k.toNat]? = some n) (hb : l.length < 2 ^ 62) (q : Q (.str [n]) σ) (hs : SubOk slice := by intro _ _; exact ⟨_, rfl⟩) :
    OV2 c d fx (fun o i => subscriptTail value slice o i) (.str l) (.int k) σ Q := fun ρ s A x y R r vx vy => by
  cases vx using VR.strC with
  | str t e =>
    rename_i x
    cases vy using VR.intC with
    | int u =>
      obtain ⟨ops, hs⟩ := hs (.str x t) (.int k u)
      have hlt := (List.getElem?_eq_some_iff.mp hv).1
      have hxl : x.length = l.length := by show x.cps.size = _; rw [← e]; simp
      have hx2 : x.cps[k.toNat]? = some n := by rw [← Array.getElem?_toList, e]; exact hv
      refine tail_any (T := "str") (typeIs_str s x t) F.slot_str_getitem.lookup (P.getItem_str (c := n) ?_ ?_ (Post.same r rfl rfl rfl (.str _ (by simp)) q)) hs
      · simp only [Bool.or_eq_false_iff, decide_eq_false_iff_not]; omega
      · rw [seqIndex_of h0 (by omega)]
        exact hx2

end
end Mine
namespace Mine
open PySem PySem.W PyProof.Rows PySem.SeqAt

section
variable {c : Cx} {d k : Nat} {fx : Fx} {ρ ρ' ρ'' : List Addr} {σ σ' : St} {h h' h'' : Heap} {s s' s₁ : Shared} {A : Around} {Q : V → St → Prop} {X : Fl → St → Prop}
  {loc loc' : List (Str × V)} {hp hp' : List O}

theorem OV2.fdiv_int {a b : Int} (hb : b ≠ 0) (hp : Builtin.divisionGoesByPylong a b = false) (q : Q (.int (a.fdiv b)) σ) : OV2 c d fx (binaryOp .FloorDiv) (.int a) (.int b) σ Q := fun ρ s A x y _ r vx vy => by
  cases vx using VR.intC; cases vy using VR.intC; exact PyProof.Rows.floordiv_int hb (Post.same r rfl rfl rfl (.int _ _) q) (.inl hp)
theorem OV2.ifdiv_int {a b : Int} (hb : b ≠ 0) (hp : Builtin.divisionGoesByPylong a b = false) (q : Q (.int (a.fdiv b)) σ) : OV2 c d fx (inplaceOp .FloorDiv) (.int a) (.int b) σ Q := fun ρ s A x y _ r vx vy => by
  cases vx using VR.intC; cases vy using VR.intC; exact PyProof.Rows.ifloordiv_int hb (Post.same r rfl rfl rfl (.int _ _) q) (.inl hp)
theorem OV2.pow_int {a n : Int} (hn : 0 ≤ n) (hn2 : n ≤ 1000000) (ha : a.natAbs < 2 ^ 64) (q : Q (.int (a ^ n.toNat)) σ) : OV2 c d fx (binaryOp .Pow) (.int a) (.int n) σ Q := fun ρ s A x y _ r vx vy => by
  cases vx using VR.intC; cases vy using VR.intC; exact PyProof.Rows.pow_int_small hn hn2 ha (Post.same r rfl rfl rfl (.int _ _) q)
theorem OVs.abs {a : Int} (q : Q (.int (if a < 0 then -a else a)) σ) : OVs c d fx (fun xs => PySem.call (.builtin "abs") xs) [.int a] σ Q := fun ρ s A xs _ r va => by
  cases va using VRs.consC with
  | cons v1 v2 => cases v1 using VR.intC; cases v2 using VRs.nilC; exact call_abs_int fun u tk => Post.same r rfl rfl rfl (.int _ _) q
theorem OVs.len_list {i : Nat} {vs : List V} (ho : σ.hp[i]? = some (.list vs)) (hl : vs.length < 2 ^ 62) (q : Q (.int vs.length) σ) : OVs c d fx (fun xs => PySem.call (.builtin "len") xs) [.ref i] σ Q := fun ρ s A xs _ r va => by
  cases va using VRs.consC with
  | cons v1 v2 =>
    cases v2 using VRs.nilC
    cases v1 using VR.refC with
    | ref ha =>
      rename_i b
      obtain ⟨a, ys, n, h1, h2, h3, h4⟩ := r.1.toHRel.list ho
      have eab : b = a := Option.some.inj (ha.symm.trans h1)
      subst eab
      have hx : ys.toArray.size = vs.length := by simp [h3.length]
      refine PyProof.Rows.len_list h4 (by rw [hx]; omega) ?_
      rw [hx]; exact Post.same r rfl rfl rfl (.int _ _) q

noncomputable def OT (c : Cx) (d : Nat) (fx : Fx) (v : V) (σ : St) (Q : Bool → St → Prop) : Prop := OU1 c d fx (fun x => truthy x) v σ Q
theorem PostU.same {α : Type} {Q : α → St → Prop} {x : α} (r : RelS c fx ρ σ s) (hs : s'.heap = s.heap) (hg : s'.gens = s.gens) (ho : s'.os = s.os) (q : Q x σ) : PostU c fx ρ s Q x s' :=
  ⟨ρ, σ, List.prefix_refl _, by rw [hs]; exact .refl _ _ _, by unfold RelS at r ⊢; rw [hs, hg, ho]; exact r, q⟩
theorem OT.bool {b : Bool} {Q : Bool → St → Prop} (q : Q b σ) : OT c d fx (.bool b) σ Q := fun ρ s A x _ r vx => by cases vx using VR.boolC; exact wpAny_truthy_bool (PostU.same r rfl rfl rfl q)
theorem TV.plain {e : Expr} {Q : Bool → St → Prop} (h : EV c d fx (eval e fx.env) σ (fun v σ₁ => OT c d fx v σ₁ Q)) (he : isTrue e fx.env (eval e fx.env) = (do let v ← eval e fx.env; standAt e.pos; holding [v] (truthy v)) := by rfl) : TV c d fx e σ Q := fun ρ s A R r => by
  refine isTrue_plain (wpAny_mono (h ρ s A R r) ?_ fun _ _ e => e) he
  rintro x s₁ ⟨ρ₁, v, σ₁, p₁, e₁, r₁, v₁, h₁⟩
  exact wpAny_mono (h₁ ρ₁ s₁ A x R r₁ v₁) (fun _ _ z => z.trans p₁ e₁ r₁) fun _ _ e => e
theorem TV.not_ {e : Expr} {pos : Pos} {Q : Bool → St → Prop} (h : TV c d fx e σ (fun b σ₁ => Q (!b) σ₁)) : TV c d fx (.UnaryOp .Not e pos) σ Q := fun ρ s A R r =>
  isTrue_not (wpAny_mono (h ρ s A R r) (fun b s' ⟨ρ', σ', p, e, r, q⟩ => ⟨ρ', σ', p, e, r, q⟩) fun _ _ e => e)
theorem EV.ifexp {test body orelse : Expr} {pos : Pos} (h : TV c d fx test σ (fun b σ₁ => if b then EV c d fx (eval body fx.env) σ₁ Q else EV c d fx (eval orelse fx.env) σ₁ Q)) : EV c d fx (eval (.IfExp test body orelse pos) fx.env) σ Q := fun ρ s A R r => by
  refine IfExp_ (wpAny_mono (h ρ s A R r) ?_ fun _ _ e => e)
  rintro b s₁ ⟨ρ₁, σ₁, p₁, e₁, r₁, h₁⟩
  cases b with
  | true => exact wpAny_mono (h₁ ρ₁ s₁ A R r₁) (fun _ _ z => z.trans p₁ e₁ r₁) fun _ _ e => e
  | false => exact wpAny_mono (h₁ ρ₁ s₁ A R r₁) (fun _ _ z => z.trans p₁ e₁ r₁) fun _ _ e => e
theorem setItem_raw {l : Addr} {xs : List Value} {n : Nat} {k : Int} {t : Tok} {v : Value} {R : Unit → Shared → Prop} {E : Value → Shared → Prop} (ho : s.heap.get? l = some (listObj xs.toArray n)) (h0 : 0 ≤ k) (hfit : k < 2 ^ 63) (hn : k < xs.length)
    (q : R () { s with heap := s.heap.update l (Obj.mapSeq (·.setIfInBounds k.toNat v)) }) : wpAny c.M A (setItem (.ref l) (.int k t) v) R E s := by
  have hl : s.heap.IsList l xs.toArray := ⟨_, ho, rfl, n, rfl⟩
  unfold setItem
  try with_reducible refine wpAny_holding ?_
  first | refine wpAny_bind (wpAny_pure ?_) | skip
  refine wpAny_bind (wpAny_sequenceKey hl.typeIs (by decide) ?_)
  refine wpAny_bind (wpAny_callSpecial?_slot (name := Str.ofString "__setitem__") hl.typeIs slot_list_setitem
    (wpAny_call_entry slot_list_setitem hl.typeIs entry_list_setitem ?_ (args_list_setitem _ _ _)))
  show wpAny _ _ (Builtin.List.listSubscript? (.int k t) >>= _) _ _ s
  refine wpAny_bind (wpAny_listSubscript_int (fitsIndex_of h0 hfit) ?_)
  clear hfit
  obtain ⟨j, rfl⟩ := Int.eq_ofNat_of_zero_le h0
  have hj : j < xs.toArray.size := by simp; omega
  have hx' : xs.toArray[j]? = some xs.toArray[j] := Array.getElem?_eq_getElem hj
  show wpAny _ _ ((seqItemAt l j >>= fun r => pure (r.map (j, ·))) >>= _) _ _ s
  refine wpAny_bind (wpAny_bind (wpAny_seqItemAt ho rfl (wpAny_pure ?_)))
  rw [hx']
  show wpAny _ _ (setSeqItemAt l j v >>= _) _ _ s
  refine wpAny_bind (wpAny_setSeqItemAt ho rfl ?_)
  first
    | exact wpAny_bind (wpAny_pure (wpAny_pure ⟨.none, rfl, wpAny_pure q⟩))
    | exact wpAny_pure ⟨.none, rfl, wpAny_pure q⟩
theorem setItemV {x : Addr} {l : Nat} {vs : List V} {k : Int} {t : Tok} {v : V} {u : Value} {R : Unit → Shared → Prop} (r : RelS c fx ρ ⟨loc, hp⟩ s) (hx : ρ[l]? = some x) (ho : hp[l]? = some (.list vs)) (h0 : 0 ≤ k) (hn : k < vs.length) (hb : vs.length < 2 ^ 62) (hv : VR ρ s.heap v u)
    (q : ∀ s', Ext fx ρ s.heap ρ s'.heap → RelS c fx ρ ⟨loc, hp.set l (.list (vs.set k.toNat v))⟩ s' → R () s') : wpAny c.M A (setItem (.ref x) (.int k t) u) R noE s := by
  obtain ⟨a, xs, n, h1, h2, h3, h4⟩ := r.1.toHRel.list ho
  have eab : x = a := Option.some.inj (hx.symm.trans h1)
  subst eab
  refine setItem_raw h2 h0 (by omega) (by rw [← h3.length]; exact hn) ?_
  have hs : Keep [x] s.heap (s.heap.update x (Obj.mapSeq (·.setIfInBounds k.toNat u))) := .of_sameBut (Heap.SameBut.update ..)
  have hg : (s.heap.update x (Obj.mapSeq (·.setIfInBounds k.toNat u))).get? x = some (listObj (xs.set k.toNat u).toArray n) := by
    rw [Heap.get?_update_self _ h2 rfl]
    show some (listObj (xs.toArray.setIfInBounds k.toNat u) (if (xs.toArray.setIfInBounds k.toNat u).size == xs.toArray.size then n else n + 1)) = _
    simp
  have kk : ImmKeep s.heap (s.heap.update x (Obj.mapSeq (·.setIfInBounds k.toNat u))) := r.1.toHRel.immKeep (hs.sub fun b m => by rw [List.mem_singleton] at m; subst m; exact mem_of_get? hx)
  exact q _ (.upd hx hs) ⟨r.1.upd hx hs hg ⟨_, n, rfl, VRs.set (h3.mono (List.prefix_refl _) kk) (hv.mono (List.prefix_refl _) kk)⟩ (.of ho), r.2⟩
theorem XV.setsub {o i : Expr} {pos' : Pos} {value : Expr} {pos : Pos}
    (h : EV c d fx (eval value fx.env) σ (fun v σ₁ => EV c d fx (eval o fx.env) σ₁ (fun u σ₂ => EV c d fx (eval i fx.env) σ₂ (fun w σ₃ => ∃ l vs k, u = .ref l ∧ w = .int k ∧ σ₃.hp[l]? = some (.list vs) ∧ 0 ≤ k ∧ k < vs.length ∧ vs.length < 2 ^ 62 ∧
      X .next ⟨σ₃.loc, σ₃.hp.set l (.list (vs.set k.toNat v))⟩))))
    (hs : swapsWith value (some (.Subscript o i pos')) pos.line fx.env = pure false := by rfl) : XV c d fx (exec (.Assign [.Subscript o i pos'] value pos) fx.env) σ X := fun ρ s A R r => by
  refine wpAny_Assign_Subscript (wpAny_mono (h ρ s A R r) ?_ fun _ _ e => e) hs
  rintro x s₁ ⟨ρ₁, v, σ₁, p₁, e₁, r₁, v₁, h₁⟩
  refine wpAny_mono (h₁ ρ₁ s₁ A R r₁) ?_ fun _ _ e => e
  rintro y s₂ ⟨ρ₂, u, σ₂, p₂, e₂, r₂, v₂, h₂⟩
  refine wpAny_mono (h₂ ρ₂ s₂ A R r₂) ?_ fun _ _ e => e
  rintro z s₃ ⟨ρ₃, _, ⟨loc₃, hp₃⟩, p₃, e₃, r₃, v₃, l, vs, k, rfl, rfl, g1, g2, g3, g4, q⟩
  cases v₃ using VR.intC
  cases v₂ using VR.refC with
  | ref hx => exact setItemV r₃ (pre_get p₃ hx) g1 g2 g3 g4 ((v₁.mono p₂ (r₁.1.immKeep e₂.keep)).mono p₃ (r₂.1.immKeep e₃.keep)) fun s' e' r' => ⟨ρ₃, .next, _, ((e₁.trans e₂ r₁.1.hasL).trans e₃ r₂.1.hasL).trans e' r₃.1.hasL, r', .next, q⟩
noncomputable def UN (c : Cx) (d : Nat) (fx : Fx) : List Expr → List V → St → (St → Prop) → Prop
  | [], [], σ, Q => Q σ
  | e :: es, v :: vs, σ, Q => OU1 c d fx (fun y => assign e fx.env y) v σ (fun _ σ' => UN c d fx es vs σ' Q)
  | _, _, _, _ => False
theorem UN.run {Q : St → Prop} {R : Unit → Shared → Prop} (hroom : Room c d A) : ∀ {es : List Expr} {vs : List V} {xs : List Value} {σ : St} {ρ : List Addr} {s : Shared}, RelS c fx ρ σ s → VRs ρ s.heap vs xs → UN c d fx es vs σ Q →
    (∀ ρ' σ' s', ρ <+: ρ' → Ext fx ρ s.heap ρ' s'.heap → RelS c fx ρ' σ' s' → Q σ' → R () s') → wpAny c.M A (assignInOrder (es.map fun e => assign e fx.env) xs) R noE s
  | [], _, _, σ, ρ, s, r, .nil, q, k => wpAny_pure (k ρ σ s (List.prefix_refl _) (.refl _ _ _) r q)
  | [], _, _, σ, ρ, s, r, .cons _ _, q, k => q.elim
  | e :: es, _, _, σ, ρ, s, r, .nil, q, k => q.elim
  | e :: es, _, _, σ, ρ, s, r, .cons v1 v2, q, k => by
    rw [List.map_cons, assignInOrder]
    refine wpAny_bind (wpAny_holding (wpAny_mono (q ρ s A _ hroom r v1) ?_ fun _ _ z => z))
    rintro _ s₁ ⟨ρ₁, σ₁, p₁, e₁, r₁, h₁⟩
    exact UN.run hroom r₁ (v2.mono p₁ (r.1.immKeep e₁.keep)) h₁ fun ρ' σ' s' p e r' q => k ρ' σ' s' (p₁.trans p) (e₁.trans e r₁.1.hasL) r' q
theorem assignEach_plain {env : Env} : ∀ {es : List Expr}, plainArgs es = true → assignEach es env = es.map fun e => (false, assign e env)
  | [], _ => rfl
  | e :: r, q => by
    cases e <;> first | (simp only [plainArgs] at q; cases q) | (simp only [plainArgs] at q; simp only [assignEach, List.map_cons, assignEach_plain q])
theorem OU1.tuple {elts : List Expr} {x1 : Nat} {pos : Pos} {vs : List V} {Q : St → Prop} (hl : elts.length = vs.length) (q : UN c d fx elts vs σ Q) (hpl : plainArgs elts = true := by rfl) :
    OU1 c d fx (fun y => assign (.Tuple elts x1 pos) fx.env y) (.tup vs) σ (fun _ σ' => Q σ') := fun ρ s A y R r hv => by
  cases hv using VR.tupC with
  | tup ha hx =>
    rename_i a xs n
    have hae := assignEach_plain (env := fx.env) hpl
    refine assign_tup R.handled (fun a e => (r.1.held a e).2) (items := xs.toArray) ⟨_, ha, rfl, n, rfl⟩ ?_ ?_ fun h' hk => ?_
    · rw [hae]; simp [hl, hx.length]
    · rw [hae]
      clear q hl hae
      induction elts with
      | nil => rfl
      | cons e r ih =>
        have : plainArgs r = true := by cases e <;> first | exact hpl | cases hpl
        rw [List.map_cons, List.findIdx?_cons, ih this]; rfl
    · have r' : RelS c fx ρ σ { s with heap := h' } := ⟨r.1.ext hk, r.2⟩
      have he' : ((assignEach elts fx.env).map (·.2)) = elts.map fun e => assign e fx.env := by rw [hae, List.map_map]; rfl
      rw [he']
      exact UN.run R r' (hx.mono (List.prefix_refl _) fun _ _ _ e => hk _ _ e) q fun ρ' σ' s' p e r'' q => ⟨ρ', σ', p, (Ext.ext hk).trans e r'.1.hasL, r'', q⟩
theorem XV.assignT {elts : List Expr} {x1 : Nat} {tpos : Pos} {value : Expr} {pos : Pos} (h : EV c d fx (eval value fx.env) σ (fun v σ₁ => OU1 c d fx (fun y => PySem.assign (.Tuple elts x1 tpos) fx.env y) v σ₁ (fun _ σ₂ => X .next σ₂)))
    (hs : swapsWithSole [.Tuple elts x1 tpos] value pos.line fx.env = pure false := by rfl) (hw : swappedStores [.Tuple elts x1 tpos] value fx.env = pure none := by rfl) :
    XV c d fx (exec (.Assign [.Tuple elts x1 tpos] value pos) fx.env) σ X := fun ρ s A R r => by
  refine Assign_Tuple (wpAny_mono (h ρ s A R r) ?_ fun _ _ e => e) hs hw
  rintro x s₁ ⟨ρ₁, v, σ₁, p₁, e₁, r₁, v₁, h₁⟩
  refine wpAny_mono (h₁ ρ₁ s₁ A x R r₁ v₁) ?_ fun _ _ z => z
  rintro _ s₂ ⟨ρ₂, σ₂, p₂, e₂, r₂, q⟩
  exact ⟨ρ₂, .next, σ₂, e₁.trans e₂ r₁.1.hasL, r₂, .next, q⟩

mutual
inductive Like (hp : List O) : Nat → V → V → Prop
  | none {n} : Like hp n .none .none
  | bool {n b} : Like hp n (.bool b) (.bool b)
  | int {n i} : Like hp n (.int i) (.int i)
  | str {n l} : Like hp n (.str l) (.str l)
  | ref {n i} : Like hp n (.ref i) (.ref i)
  | tup {n vs us} : Likes hp n vs us → Like hp (n + 1) (.tup vs) (.tup us)
  | list {n i j vs us} : hp[i]? = some (.list vs) → hp[j]? = some (.list us) → Likes hp n vs us → Like hp (n + 1) (.ref i) (.ref j)
inductive Likes (hp : List O) : Nat → List V → List V → Prop
  | nil {n} : Likes hp n [] []
  | cons {n v u vs us} : Like hp n v u → Likes hp n vs us → Likes hp n (v :: vs) (u :: us)
end
theorem Likes.length {n : Nat} : ∀ {vs us : List V}, Likes hp n vs us → vs.length = us.length
  | _, _, .nil => rfl
  | _, _, .cons _ r => congrArg (· + 1) r.length
theorem all_true (n : Nat) : (List.range n).all (fun _ => true) = true := by simp
mutual
theorem Like.eqAt (r : HRel c ρ hp s.heap) {n : Nat} {v u : V} (l : Like hp n v u) : ∀ (x y : Value) (A : Around), A.units + n < cLine → VR ρ s.heap v x → VR ρ s.heap u y → EqAt A s x y true := match l with
  | .none => fun x y A _ vx vy => by cases vx using VR.noneC; cases vy using VR.noneC; exact EqAt.same _
  | .bool => fun x y A _ vx vy => by cases vx using VR.boolC; cases vy using VR.boolC; exact EqAt.same _
  | .int (i := i) => fun x y A _ vx vy => by
    cases vx using VR.intC with
    | int t => cases vy using VR.intC with
      | int t' => have := EqAt.int_int (A := A) (s := s) i t i t'; rw [beq_self_eq_true] at this; exact this
  | .str => fun x y A _ vx vy => by
    cases vx using VR.strC with
    | str t e => cases vy using VR.strC with
      | str t' e' =>
        rename_i x y
        have hxy : x = y := (str_eq_of e).trans (str_eq_of e').symm
        subst hxy
        have := EqAt.str_str (A := A) (s := s) x t x t'; rw [beq_self_eq_true] at this; exact this
  | .ref => fun x y A _ vx vy => by
    cases vx using VR.refC with
    | ref e => cases vy using VR.refC with
      | ref e' => have := Option.some.inj (e.symm.trans e'); subst this; exact EqAt.same _
  | .tup l => fun x y A hu vx vy => by
    cases vx using VR.tupC with
    | tup ha hx => cases vy using VR.tupC with
      | tup hb hy =>
        rename_i a xs m b ys m'
        by_cases hab : a = b
        · subst hab; exact EqAt.same _
        · have hl : xs.toArray.size = ys.toArray.size := by simp [← hx.length, ← hy.length, l.length]
          have := RcAt.tuples (A := A) (s := s) (items := xs.toArray) (items2 := ys.toArray) (e := fun _ => true) ⟨_, ha, rfl, m, rfl⟩ ⟨_, hb, rfl, m', rfl⟩ (by omega)
            (fun j h1 h2 => by
              have := Likes.eqAt r l _ _ A.in1 (by simp only [Around.in1_units]; omega) hx hy j (by simpa using h1) (by simpa using h2)
              simpa using this)
          rw [all_true, hl, beq_self_eq_true, Bool.and_self] at this
          exact EqAt.of_refs hab this
  | .list hi hj l => fun x y A hu vx vy => by
    cases vx using VR.refC with
    | ref e => cases vy using VR.refC with
      | ref e' =>
        rename_i a b
        by_cases hab : a = b
        · subst hab; exact EqAt.same _
        · obtain ⟨a', xs, m, g1, g2, g3, g4⟩ := r.list hi
          obtain ⟨b', ys, m', k1, k2, k3, k4⟩ := r.list hj
          have ea := Option.some.inj (e.symm.trans g1)
          have eb := Option.some.inj (e'.symm.trans k1)
          subst ea eb
          have hl : xs.toArray.size = ys.toArray.size := by simp [← g3.length, ← k3.length, l.length]
          have := RcAt.lists (A := A) (s := s) (e := fun _ => true) g4 k4 hl (by omega)
            (fun j h1 h2 => by
              have := Likes.eqAt r l _ _ A.in1 (by simp only [Around.in1_units]; omega) g3 k3 j (by simpa using h1) (by simpa using h2)
              simpa using this)
          rw [all_true] at this
          exact EqAt.of_refs hab this
theorem Likes.eqAt (r : HRel c ρ hp s.heap) {n : Nat} {vs us : List V} (l : Likes hp n vs us) : ∀ (xs ys : List Value) (A : Around), A.units + n < cLine → VRs ρ s.heap vs xs → VRs ρ s.heap us ys → ∀ (j : Nat) (h1 : j < xs.length) (h2 : j < ys.length), EqAt A s xs[j] ys[j] true := match l with
  | .nil => fun xs ys A _ vx _ j h1 _ => by cases vx using VRs.nilC; cases h1
  | .cons l ls => fun xs ys A hu vx vy j h1 h2 => by
    cases vx using VRs.consC with
    | cons v1 v2 => cases vy using VRs.consC with
      | cons u1 u2 =>
        cases j with
        | zero => exact Like.eqAt r l _ _ A hu v1 u1
        | succ j => exact Likes.eqAt r ls _ _ A hu v2 u2 j (by simpa using h1) (by simpa using h2)
end
end
end Mine
namespace Mine
open PySem PySem.W PyProof.Rows PySem.SeqAt

section
variable {c : Cx} {d k : Nat} {fx : Fx} {ρ ρ' ρ'' : List Addr} {σ σ' : St} {h h' h'' : Heap} {s s' s₁ : Shared} {A : Around} {Q : V → St → Prop} {X : Fl → St → Prop}
  {loc loc' : List (Str × V)} {hp hp' : List O}

noncomputable abbrev MethForm (fx : Fx) (o : Expr) (name : Str) (apos : Pos) (args : List Expr) (pos : Pos) (pl : Sem Bool) : Prop := eval (.Call (.Attribute o name apos) args [] pos) fx.env = (do
      let ov ← eval o fx.env
      standAt apos.atName
      let (f, first) ← holding [ov] (getMethod ov name pl)
      callWith pos f first (backTo pos (starEach args fx.env)) [])
theorem EV.methB {o : Expr} {name : Str} {apos pos : Pos} {args : List Expr} {pl : Sem Bool} {id : String} {P : V → St → Prop}
    (h : EV c d fx (eval o fx.env) σ (fun u σ₁ => P u σ₁ ∧ EVs c d fx (spliced (backTo pos (starEach args fx.env))) σ₁ (fun vs σ₂ => OVs c d fx (fun xs => PySem.call (.builtin id) xs) (u :: vs) σ₂ Q)))
    (hm : ∀ u σ₁ ρ s x (R : Value × List Value → Shared → Prop) A, P u σ₁ → RelS c fx ρ σ₁ s → VR ρ s.heap u x → R (.builtin id, [x]) s → wpAny c.M A (getMethod x name pl) R noE s)
    (hpl : plainArgs args = true := by rfl) (he : MethForm fx o name apos args pos pl := by rfl) :
    EV c d fx (eval (.Call (.Attribute o name apos) args [] pos) fx.env) σ Q := fun ρ s A R r => by
  refine MethodCall_ (wpAny_mono (h ρ s A R r) ?_ fun _ _ e => e) he
  rintro x s₁ ⟨ρ₁, u, σ₁, p₁, e₁, r₁, v₁, hP, h₁⟩
  refine hm u σ₁ ρ₁ s₁ x _ A hP r₁ v₁ ?_
  refine wpAny_mono (callWithV (P := fun _ => True) R r₁ hpl (fun h _ => ⟨.machine, .inr (.inl rfl), Looks.of_pure rfl⟩) h₁ (fun _ _ _ _ _ _ _ _ => trivial) fun ρ' s' vs xs σ' p e r' va hf => ?_) (fun _ _ z => z.trans p₁ e₁ r₁) fun _ _ z => z
  exact hf ρ' s' A (x :: xs) R r' (.cons (v₁.mono p (r₁.1.immKeep e.keep)) va)
theorem EV.append {o : Expr} {apos pos : Pos} {args : List Expr} {pl : Sem Bool}
    (h : EV c d fx (eval o fx.env) σ (fun u σ₁ => (∃ i vs, u = .ref i ∧ σ₁.hp[i]? = some (.list vs)) ∧ EVs c d fx (spliced (backTo pos (starEach args fx.env))) σ₁ (fun vs σ₂ => OVs c d fx (fun xs => PySem.call (.builtin "list.append") xs) (u :: vs) σ₂ Q)))
    (hpl : plainArgs args = true := by rfl) (he : MethForm fx o "append" apos args pos pl := by rfl) : EV c d fx (eval (.Call (.Attribute o "append" apos) args [] pos) fx.env) σ Q :=
  EV.methB (P := fun u σ₁ => ∃ i vs, u = .ref i ∧ σ₁.hp[i]? = some (.list vs)) h (fun u σ₁ ρ s x R A ⟨i, vs, e, ho⟩ r hv q => by
    subst e
    cases hv using VR.refC with
    | ref ha =>
      rename_i b
      obtain ⟨a, ys, n, h1, h2, h3, h4⟩ := r.1.toHRel.list ho
      have eab : b = a := Option.some.inj (ha.symm.trans h1)
      subst eab
      exact Calls.getMethod_list_append h2 rfl rfl q) hpl he
theorem OVs.append {i : Nat} {vs : List V} {v : V} (ho : σ.hp[i]? = some (.list vs)) (hl : vs.length < 2 ^ 20) (q : Q .none ⟨σ.loc, σ.hp.set i (.list (vs ++ [v]))⟩) : OVs c d fx (fun xs => PySem.call (.builtin "list.append") xs) [.ref i, v] σ Q := fun ρ s A xs R r va => by
  obtain ⟨loc, hp⟩ := σ
  cases va using VRs.consC with
  | cons v1 v2 =>
    cases v2 using VRs.consC with
    | cons v2 v3 =>
      cases v3 using VRs.nilC
      cases v1 using VR.refC with
      | ref ha =>
        rename_i y b
        obtain ⟨a, ys, n, h1, h2, h3, h4⟩ := r.1.toHRel.list ho
        have eab : b = a := Option.some.inj (ha.symm.trans h1)
        subst eab
        have hsz : ys.toArray.size ≤ sizeLine := by rw [sizeLine_eq]; simp [← h3.length]; omega
        refine call_meets F.slot_list_append h4.typeIs F.entry_list_append (F.args_list_append_2 _ _) (AutoListH.list_append_list_val_0 b ys.toArray n y hsz) ⟨h2, ?_⟩
        have hs : Keep [b] s.heap (s.heap.update b (Obj.mapSeq fun x => x.push y)) := .of_sameBut (Heap.SameBut.update ..)
        have hg : (s.heap.update b (Obj.mapSeq fun x => x.push y)).get? b = some (listObj (ys ++ [y]).toArray (n + 1)) := by
          rw [Heap.get?_update_self _ h2 rfl]
          show some (listObj (ys.toArray.push y) (if (ys.toArray.push y).size == ys.toArray.size then n else n + 1)) = _
          simp
        have kk : ImmKeep s.heap (s.heap.update b (Obj.mapSeq fun x => x.push y)) := r.1.toHRel.immKeep (hs.sub fun b m => by rw [List.mem_singleton] at m; subst m; exact mem_of_get? ha)
        exact ⟨ρ, .none, _, List.prefix_refl _, .upd ha hs, ⟨r.1.upd (o := .list (vs ++ [v])) ha hs hg ⟨_, _, rfl, VRs.append (h3.mono (List.prefix_refl _) kk) (.cons (v2.mono (List.prefix_refl _) kk) .nil)⟩ (.of ho), r.2⟩, .none, q⟩
end
end Mine
namespace Mine
open PySem PySem.W PyProof.Rows PySem.SeqAt

section
variable {c : Cx} {d k : Nat} {fx : Fx} {ρ ρ' ρ'' : List Addr} {σ σ' : St} {h h' h'' : Heap} {s s' s₁ : Shared} {A : Around} {Q : V → St → Prop} {X : Fl → St → Prop}
  {loc loc' : List (Str × V)} {hp hp' : List O}

end
end Mine
namespace Mine
open PySem PySem.W PyProof.Rows PySem.SeqAt

section
variable {c : Cx} {d k : Nat} {fx : Fx} {ρ ρ' ρ'' : List Addr} {σ σ' : St} {h h' h'' : Heap} {s s' s₁ : Shared} {A : Around} {Q : V → St → Prop} {X : Fl → St → Prop}
  {loc loc' : List (Str × V)} {hp hp' : List O}

noncomputable abbrev turnC (I : Nat → St → Prop) (n : Nat) (X : Fl → St → Prop) : Fl → St → Prop := fun f σ₂ => match f with
  | .next => ∃ m, m < n ∧ I m σ₂
  | .cont => ∃ m, m < n ∧ I m σ₂
  | .brk => X .next σ₂
  | .ret v => X (.ret v) σ₂
end
end Mine
namespace Mine
open PySem PySem.W PyProof.Rows PySem.SeqAt

noncomputable def cloV (cl : List (Str × Nat)) : List (Str × NameKind) → List (Str × Nat) → Option (List (Str × Nat))
  | [], acc => some acc
  | (n, k) :: r, acc => if k == .free then (match cl.lookup n with | some i => cloV cl r ((n, i) :: acc) | none => none) else cloV cl r acc
theorem closure_go {ρ : List Addr} {cl : List (Str × Nat)} {env : Env} (hc : ClR ρ cl env.cells) : ∀ (names : List (Str × NameKind)) {acc : List (Str × Nat)} {acc' : List (Str × Addr)} {cl' : List (Str × Nat)}, ClR ρ acc acc' → cloV cl names acc = some cl' →
    ∃ clos, (forIn names acc' (fun (x : Str × NameKind) cs => (do
      if x.2 == .free then do let a ← cellOf env x.1; pure (ForInStep.yield ((x.1, a) :: cs)) else pure (ForInStep.yield cs) : Sem (ForInStep (List (Str × Addr)))))) = (pure clos : Sem (List (Str × Addr))) ∧ ClR ρ cl' clos
  | [], acc, acc', cl', ha, e => by cases e; exact ⟨acc', rfl, ha⟩
  | (n, k) :: r, acc, acc', cl', ha, e => by
    rw [cloV] at e
    rw [List.forIn_cons]
    cases hk : k == .free with
    | true =>
      rw [hk] at e
      simp only [if_true] at e ⊢
      cases hl : cl.lookup n with
      | none => rw [hl] at e; cases e
      | some i =>
        rw [hl] at e
        obtain ⟨a, h1, h2⟩ := hc.look hl
        have : cellOf env n = pure a := by unfold cellOf; rw [h1]
        rw [this]
        obtain ⟨clos, h3, h4⟩ := closure_go hc r (acc' := (n, a) :: acc') (acc := (n, i) :: acc) ⟨rfl, h2, ha⟩ e
        exact ⟨clos, h3, h4⟩
    | false =>
      rw [hk] at e
      obtain ⟨clos, h3, h4⟩ := closure_go hc r ha e
      exact ⟨clos, h3, h4⟩
theorem closure_V {ρ : List Addr} {cl cl' : List (Str × Nat)} {env : Env} {scope : Scope} (hc : ClR ρ cl env.cells) (e : cloV cl scope.names [] = some cl') : ∃ clos, closureFor scope env = pure clos ∧ ClR ρ cl' clos := by
  obtain ⟨clos, h1, h2⟩ := closure_go hc scope.names (acc := []) (acc' := []) trivial e
  refine ⟨clos, ?_, h2⟩
  unfold closureFor
  show (forIn scope.names [] _ >>= fun cs => pure cs) = _
  rw [show (forIn scope.names ([] : List (Str × Addr)) _ : Sem _) = pure clos from h1]
  rfl

section
variable {M : Model} {A : Around} {E : Value → Shared → Prop} {s : Shared} {name qual : Str} {params : Arguments} {body : List Stmt} {scope : Scope} {env : Env} {c P : Addr} {ps : Array Value} {pos : Pos} {firstLine : Nat} {mg : Str → Option Value}
  {clos : List (Str × Addr)} {Q : Value → Shared → Prop}
end

section
variable {c : Cx} {d k : Nat} {fx : Fx} {ρ ρ' ρ'' : List Addr} {σ σ' : St} {h h' h'' : Heap} {s s' s₁ : Shared} {A : Around} {Q : V → St → Prop} {X : Fl → St → Prop}
  {loc loc' : List (Str × V)} {hp hp' : List O}

end
end Mine
namespace Mine
open PySem PySem.W PyProof.Rows PySem.SeqAt

section
variable {c : Cx} {d k : Nat} {fx : Fx} {ρ ρ' ρ'' : List Addr} {σ σ' : St} {h h' h'' : Heap} {s s' s₁ : Shared} {A : Around} {X : Fl → St → Prop}
  {loc loc' : List (Str × V)} {hp hp' : List O}

theorem TV.mono {e : Expr} {σ : St} {Q Q' : Bool → St → Prop} (h : TV c d fx e σ Q) (k : ∀ b σ, Q b σ → Q' b σ) : TV c d fx e σ Q' := fun ρ s A R r =>
  wpAny_mono (h ρ s A R r) (fun _ _ ⟨ρ', σ', p, e, r, q⟩ => ⟨ρ', σ', p, e, r, k _ _ q⟩) fun _ _ z => z
inductive IfI (A B : St → Prop) (b : Bool) (σ : St) : Prop
  | mk (t : b = true → A σ) (f : b = false → B σ) : IfI A B b σ
theorem XV.ifB {test : Expr} {body orelse : List Stmt} {pos : Pos} {σ : St} (h : TV c d fx test σ (IfI (fun σ₁ => XV c d fx (execs body fx.env) σ₁ X) (fun σ₁ => XV c d fx (execs orelse fx.env) σ₁ X))) :
    XV c d fx (exec (.If test body orelse pos) fx.env) σ X := XV.ifs (h.mono fun b σ₁ q => by
  obtain ⟨q1, q2⟩ := q
  cases b
  · exact q2 rfl
  · exact q1 rfl)
theorem XV.st2 {t : Sem Flow} {loc loc' : List (Str × V)} {hp hp' : List O} (e : loc = loc') (e' : hp = hp') (h : XV c d fx t ⟨loc', hp'⟩ X) : XV c d fx t ⟨loc, hp⟩ X := by subst e; subst e'; exact h
theorem XV.whileB {test : Expr} {body : List Stmt} {pos : Pos} {σ : St} (I : Nat → St → Prop) (n : Nat) (h0 : I n σ)
    (turn : ∀ n σ, I n σ → TV c d fx test σ (fun b σ₁ => (b = true → XV c d fx (execs body fx.env) σ₁ (turnC I n X)) ∧ (b = false → X .next σ₁))) : XV c d fx (exec (.While test body [] pos) fx.env) σ X :=
  XV.while_ I n h0 fun n σ hI => (turn n σ hI).mono fun b σ₁ q => by
    cases b
    · exact q.2 rfl
    · exact q.1 rfl
end
end Mine
namespace Mine
open PySem PySem.W PySem.Calls PyProof.Rows Builtin Builtin.ObjectAttr Builtin.Getset_descriptor
section
variable {prog : Program} {w : World} {A : Around} {E : Value → Shared → Prop} {s : Shared} {K : Frag} {x C : Addr} {ox : Obj} {od : Option Obj} {name : Str} {expr : Bool} {Q : Value → Shared → Prop}
structure ExcK (K : Frag) (C : Addr) : Prop where
  has : hasDictIn K C = true
  ga : findIn K (.ref C) "__getattribute__" = some (some (.builtin "BaseException.__getattribute__"))
  gat : findIn K (.ref C) "__getattr__" = some none
  sa : findIn K (.ref C) "__setattr__" = some (some (.builtin "object.__setattr__"))
  mro : (clsIn K C).map (fun cd => (cd.mro, cd.abstract, cd.hasDel)) = some ([.ref C, .type "Exception", .type "BaseException", .type "object"], false, false)
theorem ExcK.cls (Z : ExcK K C) : ∃ cd, clsIn K C = some cd ∧ cd.mro = [.ref C, .type "Exception", .type "BaseException", .type "object"] ∧ cd.abstract = false ∧ cd.hasDel = false ∧ cd.hasDict = true := by
  obtain ⟨cd, hc, hd⟩ := any_some Z.has
  have := Z.mro
  rw [hc] at this
  simp at this
  exact ⟨cd, hc, this.1, this.2.1, this.2.2, hd⟩
theorem ExcK.sub (Z : ExcK K C) {b : Value} (hb : [Value.ref C, .type "Exception", .type "BaseException", .type "object"].contains b = true) : mroIn K C b = some true := by
  obtain ⟨cd, hc, hm, _⟩ := Z.cls
  unfold mroIn
  rw [hc, Option.bind_some, hm, hb]; rfl
theorem exc_inst {M : Model} {h : Heap} (Z : ExcK K C) (X : K.In h) (I : InstAt h x ox C od) {b : Value} (hb : [Value.ref C, .type "Exception", .type "BaseException", .type "object"].contains b = true) : Looks M h (isInstance (.ref x) b) true :=
  I.type.andThen (looks_mroIn X (Z.sub hb))
theorem excGet_open (Z : ExcK K C) (X : K.In s.heap) (I : InstAt s.heap x ox C od)
    (h : wpAny (model prog w) A.in1 (Builtin.«object.__getattribute__» ⟨[.ref x, .str name s.toks], []⟩) (fun fin s' => ∃ v, fin = .done (.ret v) ∧ wpAny (model prog w) A (handedOut v) Q E s') (fun _ _ => False) { s with toks := s.toks + 1 }) :
    wpAny (model prog w) A (getAttr (.ref x) name expr) Q E s := by
  obtain ⟨hh, g, d, t, os⟩ := s
  have L0 := I.type (M := model prog w)
  have L1 := looks_findIn (M := model prog w) X Z.ga
  have L2 := looks_findIn (M := model prog w) X Z.gat
  unfold getAttr getAttrBy
  refine wpAny_bind (wpAny_mkText (wpAny_holding (wpAny_bind (L0.at (wpAny_bind (L1.at ?_))))))
  show wpAny _ _ (getAttrByItsOwn _ _ _ _ _ _) _ _ _
  unfold getAttrByItsOwn
  refine wpAny_bind (m := hookBefore _) ?_
  show wpAny _ _ (typeLookup (.ref C) "__getattr__") _ _ _
  refine L2.at ?_
  refine wpAny_bind (wpAny_attempt ?_)
  refine wpAny_holding ?_
  have hcg : callGetattribute (.ref x) (.str name t) (.builtin "BaseException.__getattribute__") expr = boundAndCalled (.builtin "BaseException.__getattribute__") (.ref x) (.str name t) := by
    unfold callGetattribute
    rw [if_neg (by cases expr <;> exact Bool.false_ne_true)]
  rw [hcg]
  unfold boundAndCalled
  rw [PySem.F.attr_Exception.ga.bind]
  refine wpAny_bind (wpAny_pure (wpAny_call ?_))
  have hk : builtinKind "BaseException.__getattribute__" = some .slot := by decide +kernel
  have hsplit : splitId "BaseException.__getattribute__" = some ("BaseException", "__getattribute__") := by decide +kernel
  have sub := exc_inst (M := model prog w) Z X I (b := .type "BaseException") (by simp)
  refine codeAny_call_builtin PySem.F.attr_Exception.ga.plain PySem.F.entry_bexc_ga (@check_slot (model prog w) _ _ ⟨hh, g, d, t + 1, os⟩ "BaseException.__getattribute__" "BaseException" "__getattribute__" (.ref x) [.str name t] [] _ hk hsplit sub (PySem.F.args_bexc_ga _ _) ?_)
  refine wpAny_mono h ?_ fun _ _ z => z.elim
  rintro fin s' ⟨v, rfl, z⟩
  exact z
theorem excGet {v : Value} (Z : ExcK K C) (X : K.In s.heap) (I : InstAt s.heap x ox C od) (hf : findObj K C od name = some (.value v)) (hh : handedIn v = true) (h : Q v { s with toks := s.toks + 1 }) : wpAny (model prog w) A (getAttr (.ref x) name expr) Q E s := by
  refine excGet_open Z X I ?_
  obtain ⟨hp, g, d, t, os⟩ := s
  have L0 := I.type (M := model prog w)
  have L1 := looks_find (M := model prog w) X I hf
  unfold Builtin.«object.__getattribute__»
  repeat lk
  refine ⟨v, rfl, ?_⟩
  rw [handedOut_of hh]; exact wpAny_pure h
theorem excArgs_get {R : Result → Shared → Prop} {vs : Array Value} {a0 : Addr} (Z : ExcK K C) (X : K.In s.heap) (I : InstAt s.heap x ox C od) (hd : ox.data = .fields vs) (h0 : vs[0]? = some (.ref a0)) (h : R (.ok (.ret (.ref a0))) s) :
    codeAny (model prog w) A (.call (.builtin "getset_descriptor.__get__") ⟨[.builtin "BaseException.args", .ref x, .ref C], []⟩) R s := by
  obtain ⟨hh, g, d, t, os⟩ := s
  have L0 := I.type (M := model prog w)
  have L1 := looks_mroIn (M := model prog w) X (Z.sub (b := .type "BaseException") (by simp))
  have hx := I.at_
  refine codeAny_call_builtin KF.slot_gs.plain KF.entry_gs (KF.slot_gs.check _ _ _ _ _ _ _ _ PySem.F.typeOf_bexc_args (KF.args_gs _ _ _) ?_)
  unfold Builtin.«getset_descriptor.__get__» descrGet
  rw [dga_obj]
  refine wpAny_bind (wpAny_pure ?_)
  unfold descrGetter descrCheckInstance descrNameAndClass isInstance
  have hown : (descrOwnerAndName "BaseException.args").1 = "BaseException" := PySem.F.owner_bexc_args
  simp only [hown]
  repeat lk
  refine ⟨Code.quiet_builtin _ (by decide +kernel), codeAny_builtin PySem.F.entry_bexc_args ?_⟩
  unfold Builtin.«BaseException.args»
  refine wpAny_bind (wpAny_field hx hd h0 ?_)
  have hnd : (Value.ref a0 == doubtfulMember) = false := by first | rfl | decide | simp [doubtfulMember, rawInt]
  simp only [hnd, Bool.false_eq_true, if_false]
  exact wpAny_pure h
theorem excArgs {vs : Array Value} {a0 : Addr} (Z : ExcK K C) (X : K.In s.heap) (I : InstAt s.heap x ox C od) (hf : findObj K C od "args" = some (.bind (.builtin "getset_descriptor.__get__") (.builtin "BaseException.args")))
    (hd : ox.data = .fields vs) (h0 : vs[0]? = some (.ref a0)) (h : Q (.ref a0) { s with toks := s.toks + 1 }) : wpAny (model prog w) A (getAttr (.ref x) "args" expr) Q E s := by
  refine excGet_open Z X I ?_
  have I' := I
  obtain ⟨hp, g, d, t, os⟩ := s
  have L0 := I.type (M := model prog w)
  have L1 := looks_find (M := model prog w) X I hf
  unfold Builtin.«object.__getattribute__»
  repeat (first | with_reducible refine wpAny_call ?_ | lk)
  refine excArgs_get (s := ⟨hp, g, d, t + 1, os⟩) Z X I' hd h0 ?_
  refine wpAny_pure ⟨_, rfl, ?_⟩
  rw [handedOut_of rfl]; exact wpAny_pure h
end
end Mine
namespace Mine
open PySem PySem.W PySem.Calls PyProof.Rows Builtin Builtin.ObjectAttr
section
variable {prog : Program} {w : World} {A : Around} {E : Value → Shared → Prop} {s : Shared} {K : Frag} {x C : Addr} {ox : Obj} {od : Option Obj} {name : Str} {expr : Bool} {R : Result → Shared → Prop}
theorem excSet_open {tk : Tok} {v : Value} (Z : ExcK K C) (X : K.In s.heap) (I : InstAt s.heap x ox C od) (ht : takerIn K C name = some none)
    (h : ∀ b, wpAny (model prog w) A.in1 (storeInOwnDict (.ref x) (.ref C) (.str name tk) name v b)
      (fun fin s' => match fin with | .done f => R (.ok f) s' | .again c' => c'.quiet = true ∧ codeAny (model prog w) A c' R s') (fun e s' => R (.error e) s') s) :
    codeAny (model prog w) A (.call (.builtin "object.__setattr__") ⟨[.ref x, .str name tk, v], []⟩) R s := by
  have SF := PySem.F.store_object
  obtain ⟨cd, hc, hmro, _⟩ := Z.cls
  have sub : Looks (model prog w) s.heap (isInstance (.ref x) (.type "object")) true := exc_inst Z X I (by simp)
  refine codeAny_call_builtin SF.slot.plain SF.entry (@check_slot (model prog w) _ _ s "object.__setattr__" "object" "__setattr__" (.ref x) [.str name tk, v] [] _ SF.kind SF.split sub (SF.args (.ref x) (.str name tk) v) ?_)
  obtain ⟨attr, ha, hr⟩ := Option.bind_eq_some_iff.mp ht
  have hm : Looks (model prog w) s.heap (mroOf (.ref C)) cd.mro := (looks_clsIn X hc).andThen .now
  have L3 : Looks (model prog w) s.heap (storeTaker? attr) none := by
    cases attr with
    | none => exact .now
    | some a =>
      obtain ⟨b, hb, hbe⟩ := Option.map_eq_some_iff.mp hr
      cases b with
      | true => cases hbe
      | false => exact (looks_takesIn X hb).andThen .now
  rw [osa_eq, refuse_eq]
  refine wpAny_bind (wpAny_bind (I.type.here (wpAny_bind (hm.here ?_))))
  rw [hmro, refuseLoop_ref, PySem.F.store_Exception.passes]
  refine wpAny_pure (wpAny_bind (I.type.here (wpAny_bind ((looks_findIn X ha).here (wpAny_bind (L3.here ?_))))))
  exact h _
theorem storeTail {Q : Fin → Shared → Prop} {dx : Addr} {es : List DictEntry} {n : Nat} {tk : Tok} {v : Value} (hd : s.heap.get? dx = some (dictOf es n)) (hr : es.any (·.refKey) = false) (hz : es.length < 1000)
    (q : ∀ t, (s.heap.update dx (Obj.putName name (PyData.keyHash w.params name) (.str name t) v)).get? dx = some (dictOf (putL name (PyData.keyHash w.params name) (.str name t) v es) (putN name es n)) →
      Q (.done (.ret .none)) { s with heap := s.heap.update dx (Obj.putName name (PyData.keyHash w.params name) (.str name t) v), toks := s.toks + 1 }) :
    wpAny (model prog w) A (storeInDict dx (.str name tk) name v) Q E s := by
  have D' : (s.heap.update dx (Obj.putName name (PyData.keyHash w.params name) (.str name s.toks) v)).get? dx = some (dictOf (putL name (PyData.keyHash w.params name) (.str name s.toks) v es) (putN name es n)) := by
    have := Heap.get?_update_self (Obj.putName name (PyData.keyHash w.params name) (.str name s.toks) v) hd (by rw [putName_dict]; rfl)
    rw [putName_dict] at this; exact this
  refine wpAny_bind (wpAny_pure (wpAny_bind ?_))
  unfold nsSet
  refine wpAny_bind (wpAny_bind (wpAny_askSetting (wpAny_pure (wpAny_bind (wpAny_mkText (wpAny_bind (wpAny_loadPart hd ?_)))))))
  have cc : (!es.toArray.any (·.key.isStr name) && es.toArray.any (·.refKey)) = false := by
    have : es.toArray.any (·.refKey) = false := by simpa using hr
    rw [this, Bool.and_false]
  dsimp only
  rw [aRefKeyMayBeTheName_at, cc]
  refine wpAny_updatePart hd ?_
  have hz' := putL_len name (PyData.keyHash w.params name) (.str name s.toks) v es
  refine wpAny_bind (wpAny_lookBehind D' (pastItsLine_dict (by rw [List.size_toArray, sizeLine_eq]; omega)) ?_)
  exact wpAny_pure (q _ D')
theorem excSet0 {tk : Tok} {v : Value} {vs : Array Value} (Z : ExcK K C) (X : K.In s.heap) (hx : s.heap.get? x = some (excObj C none vs)) (ht : takerIn K C name = some none)
    (q : ∀ t h', h'.get? x = some (excObj C (some s.heap.objs.size) vs) → h'.get? s.heap.objs.size = some (dictOf (putL name (PyData.keyHash w.params name) (.str name t) v []) (putN name [] 0)) → (∀ b o, b ≠ x → s.heap.get? b = some o → h'.get? b = some o) →
      R (.ok (.ret .none)) { s with heap := h', toks := s.toks + 1 }) :
    codeAny (model prog w) A (.call (.builtin "object.__setattr__") ⟨[.ref x, .str name tk, v], []⟩) R s := by
  have I : InstAt s.heap x (excObj C none vs) C none := ⟨hx, rfl, rfl, trivial⟩
  refine excSet_open Z X I ht fun b => ?_
  obtain ⟨cd, hc, _, _, _, hd'⟩ := Z.cls
  have hxl : x < s.heap.objs.size := Heap.lt_size hx
  have hx1 : (s.heap.push { cls := .type "dict", data := .dict #[] }).get? x = some (excObj C none vs) := Heap.get?_push_of_some _ hx
  have hd1 : (s.heap.push { cls := .type "dict", data := .dict #[] }).get? s.heap.objs.size = some (dictOf [] 0) := Heap.get?_push_size _ rfl
  have hx2 : ((s.heap.push { cls := .type "dict", data := .dict #[] }).update x fun o => { o with dict := some s.heap.objs.size }).get? x = some (excObj C (some s.heap.objs.size) vs) := Heap.get?_update_self _ hx1 rfl
  have hd2 : ((s.heap.push { cls := .type "dict", data := .dict #[] }).update x fun o => { o with dict := some s.heap.objs.size }).get? s.heap.objs.size = some (dictOf [] 0) := (Heap.get?_update_other _ _ (Nat.ne_of_lt hxl)).trans hd1
  refine wpAny_bind (wpAny_pure (wpAny_bind (wpAny_bind (wpAny_loadPart hx (wpAny_bind ((looks_clsIn X hc).here ?_))))))
  rw [hd']
  refine wpAny_bind (m := alloc _) (wpAny_alloc ?_)
  refine wpAny_bind (m := update _ _) (wpAny_update hx1 ?_)
  refine wpAny_pure (a := some s.heap.objs.size) ?_
  have hk : ∀ b o, b ≠ x → s.heap.get? b = some o → ((s.heap.push { cls := .type "dict", data := .dict #[] }).update x fun o => { o with dict := some s.heap.objs.size }).get? b = some o := fun b o hb e =>
    (Heap.get?_update_other _ _ (Ne.symm hb)).trans (Heap.get?_push_of_some _ e)
  generalize ((s.heap.push { cls := .type "dict", data := .dict #[] }).update x fun o => { o with dict := some s.heap.objs.size }) = h₂ at hx2 hd2 hk
  refine storeTail (s := { s with heap := h₂ }) hd2 rfl (by simp) fun t D => ?_
  refine q t _ ?_ D fun b o hb e => ?_
  · exact (Heap.get?_update_other _ _ (Nat.ne_of_gt hxl)).trans hx2
  · exact (Heap.get?_update_other _ _ (Nat.ne_of_gt (Heap.lt_size e))).trans (hk b o hb e)
theorem excSet1 {tk : Tok} {v : Value} {vs : Array Value} {dx : Addr} {es : List DictEntry} {n : Nat} (Z : ExcK K C) (X : K.In s.heap) (hx : s.heap.get? x = some (excObj C (some dx) vs)) (hd : s.heap.get? dx = some (dictOf es n)) (ht : takerIn K C name = some none)
    (hr : es.any (·.refKey) = false) (hz : es.length < 1000)
    (q : ∀ t, (s.heap.update dx (Obj.putName name (PyData.keyHash w.params name) (.str name t) v)).get? dx = some (dictOf (putL name (PyData.keyHash w.params name) (.str name t) v es) (putN name es n)) →
      R (.ok (.ret .none)) { s with heap := s.heap.update dx (Obj.putName name (PyData.keyHash w.params name) (.str name t) v), toks := s.toks + 1 }) :
    codeAny (model prog w) A (.call (.builtin "object.__setattr__") ⟨[.ref x, .str name tk, v], []⟩) R s := by
  have I : InstAt s.heap x (excObj C (some dx) vs) C (some (dictOf es n)) := ⟨hx, rfl, rfl, hd⟩
  refine excSet_open Z X I ht fun b => ?_
  obtain ⟨cd, hc, _, _, _, hd'⟩ := Z.cls
  refine wpAny_bind (wpAny_pure (wpAny_bind (wpAny_bind (wpAny_loadPart hx (wpAny_bind ((looks_clsIn X hc).here ?_))))))
  rw [hd']
  refine wpAny_pure (a := some dx) ?_
  exact storeTail hd hr hz q
noncomputable def makesExcIn (K : Frag) (C : Addr) : Bool := match K.lookup C with
  | some ⟨_, _, .cls cd, sl⟩ => !cd.abstract && !cd.hasDel && (sl.toList[4]?).join == some (.builtin "Exception.__new__") && cd.mro == [.ref C, .type "Exception", .type "BaseException", .type "object"] &&
      specialIn K (.ref C) "__call__" == some (some (.builtin "type.__call__")) && instIn K (.ref C) (.type "type") == some true
  | _ => false
structure MakesExc (M : Model) (h : Heap) (C : Addr) : Prop where
  obj : ∃ oc od cd sl, h.get? C = some ⟨oc, od, .cls cd, sl⟩ ∧ cd.abstract = false ∧ cd.hasDel = false ∧ cd.mro = [.ref C, .type "Exception", .type "BaseException", .type "object"]
  made : Looks M h (Bind.madeBy (.ref C)) (some "Exception.__new__")
  sub : ∀ b, [Value.ref C, .type "Exception", .type "BaseException", .type "object"].contains b = true → Looks M h (isSubtype (.ref C) b) true
  nosub : ∀ b, [Value.ref C, .type "Exception", .type "BaseException", .type "object"].contains b = false → Looks M h (isSubtype (.ref C) b) false
  call : Looks M h (specialOf (.ref C) "__call__") (some (.builtin "type.__call__"))
  typ : Looks M h (isInstance (.ref C) (.type "type")) true
theorem makesExc_of {K : Frag} {M : Model} {h : Heap} (X : K.In h) {C : Addr} (e : makesExcIn K C = true) : MakesExc M h C := by
  unfold makesExcIn at e
  split at e
  · rename_i oc od cd sl ho
    simp only [Bool.and_eq_true, Bool.not_eq_true', beq_iff_eq] at e
    obtain ⟨⟨⟨⟨⟨e1, e2⟩, e3⟩, e4⟩, e7⟩, e8⟩ := e
    have hc : clsIn K C = some cd := by unfold clsIn; rw [ho]
    have hm : Looks M h (mroOf (.ref C)) cd.mro := (looks_clsIn X hc).andThen .now
    have made : Looks M h (Bind.madeBy (.ref C)) (some "Exception.__new__") := by
      intro A Q E s k q
      unfold Bind.madeBy
      refine wpAny_bind (hm A _ E s k ?_)
      rw [e4, List.forIn_cons]
      refine wpAny_bind (wpAny_bind (wpAny_bind (wpAny_bind (wpAny_loadPart (k _ _ (X _ _ ho)) (wpAny_pure ?_)))))
      dsimp only
      rw [← Array.getElem?_toList, e3]
      exact wpAny_pure (wpAny_pure (wpAny_pure q))
    refine ⟨⟨oc, od, cd, sl, X _ _ ho, e1, e2, e4⟩, made, fun b hb => looks_mroIn X ?_, fun b hb => looks_mroIn X ?_, looks_specialIn X e7, looks_instIn X e8⟩
    · unfold mroIn; rw [hc, Option.bind_some, e4, hb]; rfl
    · unfold mroIn; rw [hc, Option.bind_some, e4, hb]; rfl
  · cases e
end
section
variable {prog : Program} {w : World} {A : Around} {C : Addr} {R : Result → Shared → Prop} {h : Heap} {g : Array GenState} {d : Drawn} {t : Nat} {os : OsState}
theorem excNew {rest : List Value} {kw : List (Str × Value)} (Y : MakesExc (model prog w) h C)
    (hq : R (.ok (.ret (.ref (h.objs.size + 1)))) ⟨(h.push { cls := .type "tuple", data := .seq rest.toArray }).push (excObj C none #[.ref h.objs.size, .none, .none, .none, .bool false, .none]), g, d, t, os⟩) (hrest : rest.length ≤ sizeLine) :
    codeAny (model prog w) A (.call (.builtin "Exception.__new__") ⟨.ref C :: rest, kw⟩) R ⟨h, g, d, t, os⟩ := by
  obtain ⟨⟨oc, od, cd, sl, hC, e1, e2, e4⟩, made, sub, nosub, call, typ⟩ := Y
  have Fn := PySem.F.excBase_Exception
  have s1 := sub (.type "Exception") (by simp)
  have n1 := nosub (.type "AttributeError") (by simp)
  have n2 := nosub (.type "NameError") (by simp)
  have hm : Looks (model prog w) h (mroOf (.ref C)) cd.mro := ((Looks.ld (part := none) hC).andThen .now).andThen .now
  have base : Looks (model prog w) h (Bind.staticBase (.ref C)) (.ref C) := by
    intro A Q E s k q
    unfold Bind.staticBase
    refine wpAny_bind (hm A _ E s k ?_)
    rw [e4, List.forIn_cons]
    exact wpAny_bind (wpAny_bind (wpAny_bind (made A _ E s k (wpAny_pure (wpAny_pure (wpAny_pure q))))))
  have here : ∀ id, Manifest.canonical "Exception.__new__" = Manifest.canonical id → Looks (model prog w) h (Bind.madeHere id (.ref C)) () := fun id hid => base.andThen (made.andThen (Looks.of_pure (by simp only [Option.map_some, hid, bne_self_eq_false, Bool.false_eq_true, if_false])))
  have here1 := here "BaseException.__new__" Fn.canon
  have here2 := here "Exception.__new__" rfl
  refine codeAny_call_builtin_code (Code.quiet_builtin _ Fn.quiet) ?_
  have hstar := Fn.noStar
  simp only [checkBuiltinCall, Fn.newKind, Fn.newSplit, Fn.newRow]
  repeat (first | simp only [bne_self_eq_false, Bool.false_eq_true, if_false] | lk)
  have hends := Fn.ends
  refine codeAny_builtinAt Fn.entry ?_
  unfold Builtin.«BaseException.__new__»
  refine PySem.wpAt_bind ?_
  show PySem.wpAt _ _ _ (stack >>= _) _ _ _
  refine PySem.wpAt_bind (PySem.wpAt_stack fun p below => PySem.wpAt_of_wpAny ?_)
  wp_walk
  refine PySem.wpAt_of_wpAny ?_
  rw [Fn.owner]
  repeat (first | lk | wp_step)
  have hC2 := Heap.get?_push_of_some { cls := .ref C, data := .fields (#[.ref h.objs.size, .none, .none, .none, .bool false, .none] ++ (List.replicate 0 (rawInt 0)).toArray) } (Heap.get?_push_of_some { cls := .type "tuple", data := .seq rest.toArray } hC)
  refine wpAny_loadPart hC2 ?_
  simp only [e2]
  repeat (first | lk | wp_step)
  show R _ _
  rw [Heap.size_push]
  exact hq
theorem excMake {rest : List Value} {kw : List (Str × Value)} {init : Value} (Y : MakesExc (model prog w) h C) (hi : Looks (model prog w) h (typeLookup (.ref C) "__init__") (some init))
    (hb : ∀ self, Looks (model prog w) h (bindSpecial init self) (init, [self])) (hrest : rest.length ≤ sizeLine)
    (hq : codeAny (model prog w) (A.under (.builtin "type.__call__" ⟨.ref C :: rest, kw⟩)) (.call init ⟨.ref (h.objs.size + 1) :: rest, kw⟩) (InitBack (h.objs.size + 1) R)
      ⟨(h.push { cls := .type "tuple", data := .seq rest.toArray }).push (excObj C none #[.ref h.objs.size, .none, .none, .none, .bool false, .none]), g, d, t, os⟩) :
    codeAny (model prog w) A (.call (.ref C) ⟨rest, kw⟩) R ⟨h, g, d, t, os⟩ := by
  have Y' := Y
  obtain ⟨⟨oc, od, cd, sl, hC, e1, e2, e4⟩, made, sub, nosub, call, typ⟩ := Y
  refine codeAny_of_tree ?_
  show wpAny _ _ (callAny (.ref C) _) _ _ _
  refine nd_load hC ?_
  show wpAny _ _ (callAny.viaDunder (.ref C) _) _ _ _
  unfold callAny.viaDunder
  refine wpAny_bind (call.at ?_)
  dsimp only
  rw [tc_bind]
  refine wpAny_bind (wpAny_pure (wpAny_bind (wpAny_pure ?_)))
  refine wpAny_pure (a := Fin.again (.call (.builtin "type.__call__") ⟨.ref C :: rest, kw⟩)) (And.intro rfl ?_)
  refine codeAny_call_builtin_at (Code.quiet_builtin _ (by decide +kernel)) entry_typeCall (check_slot tc_kind tc_split typ (tc_args _ _ _) ?_)
  unfold Builtin.«type.__call__»
  have hm : Looks (model prog w) h (mroOf (.ref C)) cd.mro := ((Looks.ld (part := none) hC).andThen .now).andThen .now
  have e5 : cd.mro.isEmpty = false := by rw [e4]; rfl
  repeat (first | simp only [e5, Bool.false_eq_true, if_false] | with_reducible refine wpAny_call ?_ | lk)
  refine excNew Y' ?_ hrest
  have k : ∀ b o, h.get? b = some o → ((h.push { cls := .type "tuple", data := .seq rest.toArray }).push (excObj C none #[.ref h.objs.size, .none, .none, .none, .bool false, .none])).get? b = some o := fun b o e => Heap.get?_push_of_some _ (Heap.get?_push_of_some _ e)
  have hx : ((h.push { cls := .type "tuple", data := .seq rest.toArray }).push (excObj C none #[.ref h.objs.size, .none, .none, .none, .bool false, .none])).get? (h.objs.size + 1) = some (excObj C none #[.ref h.objs.size, .none, .none, .none, .bool false, .none]) := by heap_get
  generalize (h.push { cls := .type "tuple", data := .seq rest.toArray }).push (excObj C none #[.ref h.objs.size, .none, .none, .none, .bool false, .none]) = h2 at hq k hx
  have t1 : Looks (model prog w) h2 (typeOf (.ref (h.objs.size + 1))) (.ref C) := (Looks.ld hx).andThen .now
  have s1 := (sub (.ref C) (by simp)).keeps k
  have i1 := hi.keeps k
  have b1 := (hb (.ref (h.objs.size + 1))).keeps k
  unfold isInstance callSpecial? specialOf
  repeat (first | with_reducible refine wpAny_call ?_ | lk)
  refine codeAny_mono hq fun r s' z => ?_
  rcases r with e | (v | _ | _ | _) <;> first | exact z | exact z.elim | skip
  obtain ⟨rfl, z⟩ := z
  exact wpAny_pure (wpAny_pure z)
end
end Mine
namespace Mine
open PySem PySem.W PySem.Calls PyProof.Rows Builtin Builtin.ObjectAttr
section
variable {prog : Program} {w : World} {A : Around} {E : Value → Shared → Prop} {s : Shared} {K : Frag} {x C : Addr} {R : Result → Shared → Prop}
theorem excInit_find : (findCls [] (.type "Exception") (.type "type") (Str.ofString "__init__")) = some (.val (.builtin "Exception.__init__")) := by kernel_rfl
theorem excInit_get {pl : Sem Bool} {Q : Value × List Value → Shared → Prop} (h : Q (.builtin "Exception.__init__", []) { s with toks := s.toks + 1 }) :
    wpAny (model prog w) A (getMethod (.type "Exception") (Str.ofString "__init__") pl) Q E s := by
  have X : Frag.In [] s.heap := by intro a o e; cases e
  have hstub : opaqueClassAbove (.type "Exception") = pure none := by unfold opaqueClassAbove; dsimp only; rw [show Manifest.isStub "Exception" = false by decide +kernel]; rfl
  have ht : typeOf (.type "Exception") = pure (.type "type") := by first | rfl | kernel_rfl
  have L0 : Looks (model prog w) s.heap (typeOf (.type "Exception")) (.type "type") := Looks.of_pure ht
  have hg : findIn [] (.type "type") "__getattribute__" = some (some (.builtin "type.__getattribute__")) := type_tga
  unfold getMethod specialOf
  refine wpAny_bind (wpAny_bind (L0.here ((looks_findIn X hg).here ?_)))
  dsimp only
  rw [if_pos canon_tga]
  refine wpAny_bind (wpAny_mono (Q := fun v => Q (v, [])) (E := E) ?_ (fun _ _ z => wpAny_pure z) fun _ _ z => z)
  have LO : Looks (model prog w) s.heap (opaqueClassAbove (.type "Exception")) none := Looks.of_pure hstub
  refine cls_open X LO L0 hg (looks_hook X (r := none) (by rfl)) (by show subIn [] _ _ = _; rfl) excInit_find ?_
  refine wpAny_pure (by show wpAny _ _ (handedOut _) _ _ _; rw [handedOut_of (by decide +kernel)]; exact wpAny_pure h)
theorem excInit {oe : Obj} {vs : Array Value} {t0 : Addr} {rest : List Value} (Z : ExcK K C) (X : K.In s.heap) (he : s.heap.get? x = some oe) (hcls : oe.cls = .ref C) (hd : oe.data = .fields vs) (h0 : vs[0]? = some (.ref t0)) (hrest : rest.length ≤ sizeLine)
    (h : R (.ok (.ret .none)) { s with heap := (s.heap.push { cls := .type "tuple", data := .seq rest.toArray }).update x (Obj.mapFields (·.setIfInBounds 0 (.ref s.heap.objs.size))) }) :
    codeAny (model prog w) A (.call (.builtin "Exception.__init__") ⟨.ref x :: rest, []⟩) R s := by
  have F := PySem.F.excBase_Exception
  have L0 : Looks (model prog w) s.heap (typeOf (.ref x)) (.ref C) := (Looks.ld he).andThen (by rw [hcls]; exact .now)
  have L1 : Looks (model prog w) s.heap (isInstance (.ref x) (.type "Exception")) true := L0.andThen (looks_mroIn X (Z.sub (by simp)))
  have L2 : Looks (model prog w) s.heap (isSubtype (.ref C) (.type "Exception")) true := looks_mroIn X (Z.sub (by simp))
  refine codeAny_call_builtin F.init.plain F.initEntry ?_
  have hstar := F.noStar
  simp only [checkBuiltinCall, F.initKind, F.initSplit, F.initRow]
  refine wpAny_bind (L1.here ?_)
  simp only [Bool.not_true, Bool.false_eq_true, if_false]
  unfold Bind.checkArgs
  dsimp only
  refine wpAny_bind (m := Bind.printed "*" true _ _) ?_
  unfold Bind.printed Bind.receiverType
  rw [if_neg (by decide)]
  refine wpAny_bind (m := (if (Manifest.Receiver.self == Manifest.Receiver.cls) = true then pure (Value.ref x) else typeOf (.ref x))) ?_
  rw [if_neg (by decide)]
  refine L0.here ?_
  obtain ⟨cd, hc, _⟩ := Z.cls
  have LN : Looks (model prog w) s.heap (typeNameWhole (.ref C)) cd.name.toString := (looks_clsIn X hc).andThen .now
  refine wpAny_bind (LN.here (wpAny_pure (wpAny_bind ?_)))
  rw [if_pos (show (("Exception" != "*") = true) from by decide)]
  refine wpAny_pure (wpAny_onRaise ?_)
  rw [show ∀ (a b : String) (n : Nat), Bind.check ⟨.positional, "*", "Exception", .self, [⟨"args", .varPos, false⟩]⟩ a b n (List.map (fun x => x.fst) ([] : List (Str × Value))) = pure () from
    fun a b n => check_star_args _ _ _ _ _ _]
  refine wpAny_pure ?_
  unfold Builtin.«BaseException.__init__»
  dsimp only
  rw [if_neg (by simp)]
  unfold newTuple Builtin.BaseException.bexcPut
  have hsz : 0 < vs.size := (Array.getElem?_eq_some_iff.mp h0).1
  have he₁ := Heap.get?_push_of_some (h := s.heap) { cls := .type "tuple", data := .seq rest.toArray } he
  refine wpAny_bind (wpAny_newObj_type (wpAny_bind (wpAny_bind (wpAny_field he₁ hd h0 (wpAny_bind (wpAny_setField he₁ hd hsz ?_))))) (by show rest.toArray.size ≤ sizeLine; rw [List.size_toArray]; exact hrest))
  exact wpAny_letGo (wpAny_pure h)
end
end Mine
namespace Mine
open PySem PySem.W PyProof.Rows
section
variable {c : Cx} {d k : Nat} {fx : Fx} {ρ ρ' ρ'' : List Addr} {σ σ' : St} {h h' h'' : Heap} {s s' s₁ : Shared} {A : Around} {Q : V → St → Prop} {X : Fl → St → Prop}
  {loc loc' : List (Str × V)} {hp hp' : List O}
theorem HRel.push_ (r : HRel c ρ hp h) (o : Obj) : HRel c ρ hp (h.push o) := r.ext fun _ _ e => Heap.get?_push_of_some _ e
theorem get_push_ne {h : Heap} {o x : Obj} {a : Addr} (ha : a ≠ h.objs.size) (e : (h.push o).get? a = some x) : h.get? a = some x := by
  obtain ⟨e1, e2⟩ := Heap.get?_some_iff.mp e
  refine Heap.get?_some_iff.mpr ⟨?_, e2⟩
  cases h; simpa [Heap.push, Array.getElem?_push, ha] using e1
theorem HRel.exc (r : HRel c ρ hp h) {i : Nat} {C : Addr} {dn : Option Nat} {a : V} {b : Bool} (e1 : hp[i]? = some (.exc C dn a b)) :
    ∃ x dd t0 vs, ρ[i]? = some x ∧ h.get? x = some (excObj C dd vs) ∧ vs[0]? = some t0 ∧ VR ρ h a t0 ∧ DictR ρ dn dd ∧ vs.size = 6 := by
  obtain ⟨x, ox, h1, h2, dd, x0, f1, f2, f3, f4, f5, rfl, h3, h4, h5⟩ := r.at e1
  exact ⟨x, dd, x0, _, h1, h2, rfl, h3, h4, rfl⟩
theorem HRel.excD (r : HRel c ρ hp h) {i j : Nat} {C : Addr} {a : V} {b : Bool} {kvs : List (Str × V)} (e1 : hp[i]? = some (.exc C (some j) a b)) (e2 : hp[j]? = some (.ns kvs)) :
    ∃ x dx t0 vs es n, ρ[i]? = some x ∧ ρ[j]? = some dx ∧ h.get? x = some (excObj C (some dx) vs) ∧ h.get? dx = some (dictOf es n) ∧ NsR ρ h kvs es ∧ InstAt h x (excObj C (some dx) vs) C (some (dictOf es n)) ∧ vs[0]? = some t0 ∧ VR ρ h a t0 := by
  obtain ⟨x, dd, t0, vs, h1, h2, h3, h4, h5, _⟩ := r.exc e1
  obtain ⟨dx', od, g1, g2, es, n, rfl, g3⟩ := r.at e2
  cases dd with
  | none => exact h5.elim
  | some dx =>
    have e : dx = dx' := Option.some.inj ((show ρ[j]? = some dx from h5).symm.trans g1)
    subst e
    exact ⟨x, dx, t0, vs, es, n, h1, g1, h2, g2, g3, ⟨h2, rfl, rfl, g2⟩, h3, h4⟩
inductive AttrEI (c : Cx) (attr : Str) (Q : V → St → Prop) (o : V) (σ₁ : St) : Prop
  | mk (i : Nat) (C : Addr) (j : Nat) (a : V) (b : Bool) (kvs : List (Str × V)) (v : V) (h0 : o = .ref i) (h1 : σ₁.hp[i]? = some (.exc C (some j) a b)) (h2 : σ₁.hp[j]? = some (.ns kvs)) (h3 : kvs.lookup attr = some v) (h4 : ExcK c.K C)
    (h5 : findIn c.K (.ref C) attr = some none) (h6 : v.handed = true) (q : Q v σ₁) : AttrEI c attr Q o σ₁
theorem EV.attrE {value : Expr} {attr : Str} {pos : Pos} (h : EV c d fx (eval value fx.env) σ (AttrEI c attr Q))
    (he : eval (.Attribute value attr pos) fx.env = (do
      let o ← eval value fx.env
      standAt pos.atName
      let r ← holding [o] (getAttr o attr true)
      letTemporaryGo value o r
      pure r) := by with_unfolding_all rfl) : EV c d fx (eval (.Attribute value attr pos) fx.env) σ Q := fun ρ s A R r => by
  refine Attribute_any_ (wpAny_mono (h ρ s A R r) ?_ fun _ _ e => e) he
  rintro x s₁ ⟨ρ₁, _, σ₁, p₁, e₁, r₁, v₁, i, C, j, a, b, kvs, v, rfl, h1, h2, h3, h4, h5, h6, q⟩
  cases v₁ using VR.refC with
  | ref hx =>
    obtain ⟨x', dx, t0, vs, es, n, g1, g2, g3, g4, g5, I, g6, g7⟩ := r₁.1.toHRel.excD h1 h2
    rw [hx] at g1; cases g1
    obtain ⟨u, k1, k2⟩ := g5.get h3
    exact excGet h4 (r₁.1.ok.k.keeps r₁.1.keep) I (findObj_own h4.has h5 rfl (by rw [lookIn_dict]; exact k1)) (k2.handed h6) ⟨ρ₁, v, σ₁, p₁, e₁, r₁, k2, q⟩
inductive SetE0I (c : Cx) (attr : Str) (v : V) (Q : St → Prop) (u : V) (σ₂ : St) : Prop
  | mk (i : Nat) (C : Addr) (a : V) (h0 : u = .ref i) (h1 : σ₂.hp[i]? = some (.exc C none a false)) (h3 : ExcK c.K C) (h4 : takerIn c.K C attr = some none)
    (q : Q ⟨σ₂.loc, σ₂.hp.set i (.exc C (some σ₂.hp.length) a false) ++ [.ns [(attr, v)]]⟩) : SetE0I c attr v Q u σ₂
theorem XV.setattrE0 {o : Expr} {attr : Str} {pos' : Pos} {value : Expr} {pos : Pos}
    (h : EV c d fx (eval value fx.env) σ (fun v σ₁ => EV c d fx (eval o fx.env) σ₁ (SetE0I c attr v (X .next))))
    (hs : swapsWith value (some (.Attribute o attr pos')) pos.line fx.env = pure false := by rfl) : XV c d fx (exec (.Assign [.Attribute o attr pos'] value pos) fx.env) σ X := fun ρ s A R r => by
  refine plainObj_wpAny_Assign_Attribute (wpAny_mono (h ρ s A R r) ?_ fun _ _ e => e) hs
  rintro x s₁ ⟨ρ₁, v, σ₁, p₁, e₁, r₁, v₁, h₁⟩
  refine wpAny_mono (h₁ ρ₁ s₁ A R r₁) ?_ fun _ _ e => e
  rintro y s₂ ⟨ρ₂, _, ⟨loc₂, hp₂⟩, p₂, e₂, r₂, v₂, i, C, a, rfl, h1, h3, h4, q⟩
  cases v₂ using VR.refC with
  | ref hx =>
    rename_i x'
    obtain ⟨x'', ox, g1, g2, dd, x0, f1, f2, f3, f4, f5, rfl, g3, g4, g5⟩ := r₂.1.toHRel.at h1
    have ex := Option.some.inj (hx.symm.trans g1)
    subst ex
    obtain ⟨rfl, rfl, rfl, rfl, rfl⟩ := g5 rfl
    cases dd with
    | some _ => exact g4.elim
    | none =>
      have X := r₂.1.ok.k.keeps r₂.1.keep
      have v₁' := v₁.mono p₂ (r₁.1.immKeep e₂.keep)
      have I : InstAt s₂.heap x' (excObj C none #[x0, .none, .none, .none, .bool false, .none]) C none := ⟨g2, rfl, rfl, trivial⟩
      refine set_plain X I h3.sa (excSet0 (s := { s₂ with toks := s₂.toks + 1 }) h3 X g2 h4 fun t h' D1 D2 k => ?_)
      have hs : Keep [x'] s₂.heap h' := fun b o n e => k b o (fun z => n (by rw [z]; exact .head _)) e
      have ra := r₂.1.alloc (o := .ns [(attr, v)]) (x := dictOf (putL attr (PyData.keyHash c.w.params attr) (.str attr t) _ []) (putN attr [] 0)) rfl
        ⟨_, _, rfl, NsR.put (kvs := []) ((v₁'.mono (pre_snoc ..) fun b o _ e => Heap.get?_push_of_some _ e)) trivial⟩
      have hs' : Keep [x'] (s₂.heap.push (dictOf (putL attr (PyData.keyHash c.w.params attr) (.str attr t) _ []) (putN attr [] 0))) h' := fun b o n e => by
        by_cases hb : b = s₂.heap.objs.size
        · subst hb
          rw [Heap.get?_push_size _ rfl] at e
          rw [D2]; exact e
        · refine hs b o n ?_
          exact get_push_ne hb e
      have hi : i < hp₂.length := by rw [← r₂.1.len]; exact (List.getElem?_eq_some_iff.mp hx).1
      have km : ImmKeep (s₂.heap.push (dictOf (putL attr (PyData.keyHash c.w.params attr) (.str attr t) _ []) (putN attr [] 0))) h' := ra.toHRel.immKeep (hs'.sub fun b m => by rw [List.mem_singleton] at m; subst m; exact List.mem_append_left _ (mem_of_get? hx))
      have ru := ra.upd (i := i) (o := .exc C (some hp₂.length) a false) (pre_get (pre_snoc ..) hx) hs' D1 ⟨_, _, _, _, _, _, _, rfl, g3.mono (pre_snoc ..) (fun b o f e => km b o f (Heap.get?_push_of_some _ e)), (by show (ρ₂ ++ [s₂.heap.objs.size])[hp₂.length]? = _; rw [← r₂.1.len]; simp), fun _ => ⟨rfl, rfl, rfl, rfl, rfl⟩⟩ (.inr fun r hr hz => ⟨_, rfl, rfl⟩)
      rw [List.set_append_left _ _ hi] at ru
      exact ⟨_, .next, _, (e₁.trans e₂ r₁.1.hasL).trans ((Ext.alloc _).trans (Ext.upd (pre_get (pre_snoc ..) hx) hs') ra.hasL) r₂.1.hasL, ⟨ru, r₂.2⟩, .next, q⟩
inductive SetEI (c : Cx) (attr : Str) (v : V) (Q : St → Prop) (u : V) (σ₂ : St) : Prop
  | mk (i : Nat) (C : Addr) (j : Nat) (a : V) (b : Bool) (kvs : List (Str × V)) (h0 : u = .ref i) (h1 : σ₂.hp[i]? = some (.exc C (some j) a b)) (h2 : σ₂.hp[j]? = some (.ns kvs)) (h3 : ExcK c.K C) (h4 : takerIn c.K C attr = some none) (h5 : kvs.length < 1000)
    (q : Q ⟨σ₂.loc, σ₂.hp.set j (.ns (put attr v kvs))⟩) : SetEI c attr v Q u σ₂
theorem XV.setattrE {o : Expr} {attr : Str} {pos' : Pos} {value : Expr} {pos : Pos}
    (h : EV c d fx (eval value fx.env) σ (fun v σ₁ => EV c d fx (eval o fx.env) σ₁ (SetEI c attr v (X .next))))
    (hs : swapsWith value (some (.Attribute o attr pos')) pos.line fx.env = pure false := by rfl) : XV c d fx (exec (.Assign [.Attribute o attr pos'] value pos) fx.env) σ X := fun ρ s A R r => by
  refine plainObj_wpAny_Assign_Attribute (wpAny_mono (h ρ s A R r) ?_ fun _ _ e => e) hs
  rintro x s₁ ⟨ρ₁, v, σ₁, p₁, e₁, r₁, v₁, h₁⟩
  refine wpAny_mono (h₁ ρ₁ s₁ A R r₁) ?_ fun _ _ e => e
  rintro y s₂ ⟨ρ₂, _, ⟨loc₂, hp₂⟩, p₂, e₂, r₂, v₂, i, C, j, a, b, kvs, rfl, h1, h2, h3, h4, h5, q⟩
  cases v₂ using VR.refC with
  | ref hx =>
    obtain ⟨x', dx, t0, vs, es, n, g1, g2, g3, g4, g5, I, g6, g7⟩ := r₂.1.toHRel.excD h1 h2
    have ex := Option.some.inj (hx.symm.trans g1)
    subst ex
    have X := r₂.1.ok.k.keeps r₂.1.keep
    have v₁' := v₁.mono p₂ (r₁.1.immKeep e₂.keep)
    refine set_plain X I h3.sa (excSet1 (s := { s₂ with toks := s₂.toks + 1 }) h3 X g3 g4 h4 g5.noRef (by rw [← g5.length]; exact h5) fun t D => ?_)
    have hs : Keep [dx] s₂.heap (s₂.heap.update dx (Obj.putName attr (PyData.keyHash c.w.params attr) (.str attr t) x)) := .of_sameBut (Heap.SameBut.update ..)
    have k : ImmKeep s₂.heap (s₂.heap.update dx (Obj.putName attr (PyData.keyHash c.w.params attr) (.str attr t) x)) := r₂.1.toHRel.immKeep (hs.sub fun b m => by rw [List.mem_singleton] at m; subst m; exact mem_of_get? g2)
    exact ⟨_, .next, _, (e₁.trans e₂ r₁.1.hasL).trans (.upd g2 hs) r₂.1.hasL, ⟨r₂.1.upd (o := .ns (put attr v kvs)) g2 hs D ⟨_, _, rfl, NsR.put (v₁'.mono (List.prefix_refl _) k) (g5.mono (List.prefix_refl _) k)⟩ (.of h2), r₂.2⟩, .next, q⟩
theorem args_get_special : specialIn [] (.builtin "BaseException.args") "__get__" = some (some (.builtin "getset_descriptor.__get__")) := by decide +kernel
theorem args_set_takes : takesIn [] (.builtin "BaseException.args") = some true := by decide +kernel
theorem excArgs_find {K : Frag} {C : Addr} {od : Option Obj} (Z : ExcK K C) (h1 : findIn K (.ref C) "args" = some (some (.builtin "BaseException.args"))) : findObj K C od "args" = some (.bind (.builtin "getset_descriptor.__get__") (.builtin "BaseException.args")) := by
  obtain ⟨cd, hc, _⟩ := Z.cls
  have h2 : specialIn K (.builtin "BaseException.args") "__get__" = some (some (.builtin "getset_descriptor.__get__")) := args_get_special
  have h3 : takesIn K (.builtin "BaseException.args") = some true := args_set_takes
  unfold findObj
  rw [hc, Option.bind_some, h1, Option.bind_some]
  simp only [h2, Option.bind_some, h3]
inductive ArgsEI (c : Cx) (Q : V → St → Prop) (o : V) (σ₁ : St) : Prop
  | mk (i : Nat) (C : Addr) (j : Nat) (as : List V) (b : Bool) (kvs : List (Str × V)) (h0 : o = .ref i) (h1 : σ₁.hp[i]? = some (.exc C (some j) (.tup as) b)) (h2 : σ₁.hp[j]? = some (.ns kvs)) (h4 : ExcK c.K C)
    (h5 : findIn c.K (.ref C) "args" = some (some (.builtin "BaseException.args"))) (q : Q (.tup as) σ₁) : ArgsEI c Q o σ₁
theorem EV.argsE {value : Expr} {pos : Pos} (h : EV c d fx (eval value fx.env) σ (ArgsEI c Q))
    (he : eval (.Attribute value "args" pos) fx.env = (do
      let o ← eval value fx.env
      standAt pos.atName
      let r ← holding [o] (getAttr o "args" true)
      letTemporaryGo value o r
      pure r) := by with_unfolding_all rfl) : EV c d fx (eval (.Attribute value "args" pos) fx.env) σ Q := fun ρ s A R r => by
  refine Attribute_any_ (wpAny_mono (h ρ s A R r) ?_ fun _ _ e => e) he
  rintro x s₁ ⟨ρ₁, _, σ₁, p₁, e₁, r₁, v₁, i, C, j, as, b, kvs, rfl, h1, h2, h4, h5, q⟩
  cases v₁ using VR.refC with
  | ref hx =>
    obtain ⟨x', dx, t0, vs, es, n, g1, g2, g3, g4, g5, I, g6, g7⟩ := r₁.1.toHRel.excD h1 h2
    rw [hx] at g1; cases g1
    cases g7 using VR.tupC with
    | tup ea ra => exact excArgs h4 (r₁.1.ok.k.keeps r₁.1.keep) I (excArgs_find h4 h5) rfl g6 ⟨ρ₁, _, σ₁, p₁, e₁, r₁, .tup ea ra, q⟩
end
end Mine
namespace Mine
open PySem PySem.W PyProof.Rows PySem.SeqAt
section
variable {c : Cx} {d k : Nat} {fx : Fx} {σ : St} {Q : V → St → Prop}
theorem EV.ifB {test body orelse : Expr} {pos : Pos} (h : TV c d fx test σ (IfI (fun σ₁ => EV c d fx (eval body fx.env) σ₁ Q) (fun σ₁ => EV c d fx (eval orelse fx.env) σ₁ Q))) : EV c d fx (eval (.IfExp test body orelse pos) fx.env) σ Q :=
  EV.ifexp (h.mono fun b σ₁ q => by
    cases b
    · exact q.2 rfl
    · exact q.1 rfl)
end
end Mine
namespace Mine
open PySem PySem.W PyProof.Rows PySem.SeqAt
section
variable {c : Cx} {d k : Nat} {fx : Fx} {ρ ρ' ρ'' : List Addr} {σ σ' : St} {h h' h'' : Heap} {s s' s₁ : Shared} {A : Around} {Q : V → St → Prop} {X : Fl → St → Prop}
  {loc loc' : List (Str × V)} {hp hp' : List O}

noncomputable def Src (c : Cx) (fx : Fx) (v : V) (σ : St) (n : Nat) (item : Nat → V) (Cn : St → Prop) : Prop :=
  ∀ ρ (s : Shared) A x (R : Value → Shared → Prop) (E : Value → Shared → Prop), A.handled = c.hd.map Value.ref → RelS c fx ρ σ s → VR ρ s.heap v x →
    (∀ it J h' tk, (∀ b o, s.heap.get? b = some o → h'.get? b = some o) → s.heap.objs.size ≤ h'.objs.size → s.heap.get? it = none → c.H₀.get? it = none → It c ρ it n item Cn J → J 0 h' → R (.ref it) { s with heap := h', toks := tk }) → wpAny c.M A (pyIter x) R E s
theorem Src.base {a : Addr} {xs : List Value} {vs : List V} (hl : c.H₀.IsList a xs.toArray) (hv : ∀ ρ h, VRs ρ h vs xs) : Src c fx (.top a) σ vs.length (fun i => vs.getD i .none) (fun _ => True) := fun ρ s A x R E hh r vx q => by
  cases vx using VR.topC with
  | top =>
    have hl' : s.heap.IsList a xs.toArray := let ⟨o, e, y⟩ := hl; ⟨o, r.1.keep _ _ e, y⟩
    refine wpAny_pyIter_list hl' ?_
    exact q _ _ _ s.toks (fun _ _ e => Heap.get?_push_of_some _ e) (by rw [Heap.size_push]; exact Nat.le_succ _) (get_none_of_lt (Nat.le_refl _)) (r.1.size₀ (Nat.le_refl _)) (It.topList hl hv) ⟨_, Heap.get?_push_size _ rfl, rfl, rfl⟩

theorem XV.forS {target iter : Expr} {body : List Stmt} {pos : Pos} (h : EV c d fx (eval iter fx.env) σ (fun v σ₁ => ∃ n item Cn, Src c fx v σ₁ n item Cn ∧ ∃ I : Nat → St → Prop, I 0 σ₁ ∧ (∀ i σ, I i σ → Cn σ) ∧
      (∀ ρ₀, ρ₀.length = σ₁.hp.length → ∀ i σ, i < n → I i σ → OU1 c d { fx with ρ₀ := ρ₀ } (fun y => PySem.assign target fx.env y) (item i) σ (fun _ σ₁ => XV c d { fx with ρ₀ := ρ₀ } (execs body fx.env) σ₁ (forX I i X))) ∧
      (∀ σ, I n σ → X .next σ)))
    (hs : ∀ x, foldedSetIterable iter fx.env x = pure x := by intro _; rfl) (ht : ∀ s : Shared, ∀ it, ∀ v, letOwnedTupleGo target (.ref it) v = pure () := by intros; rfl) : XV c d fx (exec (.For target iter body [] pos) fx.env) σ X := fun ρ s A R r => by
  refine wpAny_For (wpAny_mono (h ρ s A R r) ?_ fun _ _ e => e) hs
  rintro x s₁ ⟨ρ₁, v, σ₁, p₁, e₁, r₁, v₁, n, item, Cn, hsrc, I, i0, iC, turn, fin⟩
  refine hsrc ρ₁ s₁ A x _ _ R.handled r₁ v₁ fun it J h' tk hk hsz hnew h0 T hJ => ?_
  have r₂ : RelS c fx ρ₁ σ₁ { s₁ with heap := h', toks := tk } := ⟨r₁.1.ext hk, r₁.2⟩
  refine codeAny_mono (forIt (E := noE) (s₀ := s₁) R T r₂ (.ext hk) hnew (fun m => ?_) h0 (fun e => ?_) hJ I i0 iC (turn ρ₁ r₁.1.len) fin (ht s _)) ?_
  · obtain ⟨_, _, x, _, _, hx, _⟩ := r₁.1.toHRel.mem m
    rw [hnew] at hx; cases hx
  · obtain ⟨o, ho⟩ := r₁.1.hasL
    rw [← e, hnew] at ho; cases ho
  · rintro (e | f) s' z
    · exact z
    · exact z.trans e₁ r₁
end
end Mine
namespace Mine
open PySem PySem.W PyProof.Rows
section
variable {c : Cx} {d k : Nat} {fx : Fx} {ρ ρ' ρ'' : List Addr} {σ σ' : St} {h h' h'' : Heap} {s s' s₁ : Shared} {A : Around} {Q : V → St → Prop} {X : Fl → St → Prop}
  {loc loc' : List (Str × V)} {hp hp' : List O}
inductive ExcInitI (c : Cx) (Q : V → St → Prop) (vs : List V) (σ₂ : St) : Prop
  | mk (i : Nat) (C : Addr) (dn : Option Nat) (a as : List V) (b : Bool) (h0 : vs = .ref i :: as) (h1 : σ₂.hp[i]? = some (.exc C dn (.tup a) b)) (h2 : ExcK c.K C) (h3 : as.length ≤ 100)
    (q : Q .none ⟨σ₂.loc, σ₂.hp.set i (.exc C dn (.tup as) b)⟩) : ExcInitI c Q vs σ₂
theorem EV.excInit {np apos pos : Pos} {args : List Expr} {pl : Sem Bool} (e : nsIn c.K mainGlobals "Exception" = some none)
    (h : EVs c d fx (spliced (backTo pos (starEach args fx.env))) σ (ExcInitI c Q))
    (hpl : plainArgs args = true := by rfl) (he : MethForm fx (.Name "Exception" np) "__init__" apos args pos pl := by rfl) (hx : fx.env.kindOf "Exception" = some .globalImplicit := by rfl) :
    EV c d fx (eval (.Call (.Attribute (.Name "Exception" np) "__init__" apos) args [] pos) fx.env) σ Q := fun ρ s A R r => by
  have hn : EV c d fx (eval (.Name "Exception" np) fx.env) σ (fun v σ₁ => v = .ty "Exception" ∧ σ₁ = σ) := EV.gbi ⟨rfl, rfl⟩ e PyProof.Rows.Boot.«Exception» (fun _ _ => .ty _) (by decide) hx
  refine MethodCall_ (wpAny_mono (hn ρ s A R r) ?_ fun _ _ e => e) he
  rintro x s₁ ⟨ρ₁, u, σ₁, p₁, e₁, r₁, v₁, rfl, rfl⟩
  cases v₁
  refine excInit_get ?_
  have r₁' : RelS c fx ρ₁ σ₁ { s₁ with toks := s₁.toks + 1 } := r₁
  refine wpAny_mono (callWithV (P := fun _ => True) R r₁' hpl (fun h _ => ⟨.machine, .inr (.inl rfl), Looks.of_pure rfl⟩) h (fun _ _ _ _ _ _ _ _ => trivial) fun ρ' s' vs xs σ' p e r' va hf => ?_) (fun _ _ z => (z.sh (s₀ := s₁) rfl).trans p₁ e₁ r₁) fun _ _ z => z
  obtain ⟨i, C, dn, a, as, b, rfl, h1, h2, h3, q⟩ := hf
  obtain ⟨loc', hp'⟩ := σ'
  cases va using VRs.consC with
  | cons v1 v2 =>
    cases v1 using VR.refC with
    | ref hx =>
      rename_i xs x'
      obtain ⟨x'', ox, g1, g2, dd, x0, f1, f2, f3, f4, f5, rfl, g3, g4, g5⟩ := r'.1.toHRel.at h1
      have ex := Option.some.inj (hx.symm.trans g1)
      subst ex
      cases g3 using VR.tupC with
      | tup ea ra =>
        refine wpAny_call (excInit h2 (r'.1.ok.k.keeps r'.1.keep) g2 rfl rfl rfl (by rw [← v2.length, sizeLine_eq]; omega) ?_)
        have rp := r'.1.push (tupObj xs.toArray 0)
        have gp := Heap.get?_push_of_some (tupObj xs.toArray 0) g2
        have hs : Keep [x'] (s'.heap.push (tupObj xs.toArray 0)) ((s'.heap.push (tupObj xs.toArray 0)).update x' (Obj.mapFields (·.setIfInBounds 0 (.ref s'.heap.objs.size)))) := .of_sameBut (Heap.SameBut.update ..)
        have hg : ((s'.heap.push (tupObj xs.toArray 0)).update x' (Obj.mapFields (·.setIfInBounds 0 (.ref s'.heap.objs.size)))).get? x' = some (excObj C dd #[.ref s'.heap.objs.size, f1, f2, f3, f4, f5]) := Heap.get?_update_self _ gp rfl
        have km : ImmKeep (s'.heap.push (tupObj xs.toArray 0)) ((s'.heap.push (tupObj xs.toArray 0)).update x' (Obj.mapFields (·.setIfInBounds 0 (.ref s'.heap.objs.size)))) := rp.toHRel.immKeep (hs.sub fun b m => by rw [List.mem_singleton] at m; subst m; exact mem_of_get? hx)
        refine ⟨ρ', .none, _, List.prefix_refl _, (Ext.push _).trans (.upd hx hs) rp.hasL, ⟨rp.upd (o := .exc C dn (.tup as) b) hx hs hg ⟨dd, _, _, _, _, _, _, rfl, ?_, g4, g5⟩ (.inr fun r hr hz => ?_), r'.2⟩, .none, q⟩
        · exact .tup (km _ _ (.inl ⟨_, _, rfl⟩) (Heap.get?_push_size _ rfl)) ((v2.mono (List.prefix_refl _) fun b o _ e => Heap.get?_push_of_some _ e).mono (List.prefix_refl _) km)
        · rw [gp] at hr; cases hr; obtain ⟨vs, z1, z2⟩ := hz; cases z1; exact ⟨_, rfl, z2⟩
end
end Mine
namespace Mine
open PySem PySem.W PyProof.Rows
noncomputable def txtOf (x : String) : List Nat := (Str.ofString x).cps.toList
section
variable {c : Cx} {d k : Nat} {fx : Fx} {ρ ρ' ρ'' : List Addr} {σ σ' : St} {h h' h'' : Heap} {s s' s₁ : Shared} {A : Around} {Q : V → St → Prop} {X : Fl → St → Prop}
  {loc loc' : List (Str × V)} {hp hp' : List O}
noncomputable def FmtV (c : Cx) (d : Nat) (fx : Fx) (v : V) (σ : St) (Q : V → St → Prop) : Prop :=
  ∀ ρ s A x, Room c d A → RelS c fx ρ σ s → VR ρ s.heap v x → wpAny c.M A (convS x) (fun r s₂ => wpAny c.M A (formatField r Str.empty) (Post c fx ρ s Q) noE s₂) noE s
theorem EV.fmtS {value : Expr} {pos : Pos} (h : EV c d fx (eval value fx.env) σ (fun v σ₁ => FmtV c d fx v σ₁ Q)) : EV c d fx (eval (.FormattedValue value 115 none pos) fx.env) σ Q := fun ρ s A R r => by
  refine wpAny_FormattedValue_s (wpAny_mono (h ρ s A R r) ?_ fun _ _ e => e)
  rintro x s₁ ⟨ρ₁, v, σ₁, p₁, e₁, r₁, v₁, h₁⟩
  have w := h₁ ρ₁ s₁ A x R r₁ v₁
  exact wpAny_mono w (fun _ _ z => wpAny_mono z (fun _ _ z => z.trans p₁ e₁ r₁) fun _ _ z => z) fun _ _ z => z
theorem FmtV.fmtStr {l : List Nat} (hl : l.length ≤ sizeLine) (q : Q (.str l) σ) : FmtV c d fx (.str l) σ Q := fun ρ s A x R r v => by
  cases v using VR.strC with
  | str t e =>
    rename_i y
    have hy : y.length ≤ sizeLine := by rw [← e] at hl; simpa [Str.length] using hl
    exact SB.convS_str (fun t' k => SB.field_str (fun t'' k' => Post.same r rfl rfl rfl (.str _ e) q) hy) hy
theorem FmtV.fmtInt {i : Int} (hi : i.natAbs.log2 < 1920) (q : Q (.str (txtOf (toString i))) σ) : FmtV c d fx (.int i) σ Q := fun ρ s A x R r v => by
  cases v using VR.intC with
  | int t => exact SB.convS_int hi (SB.field_str (fun t'' k' => Post.same r rfl rfl rfl (.str _ rfl) q) (int_text_fits hi))
theorem FmtV.fmtNone (q : Q (.str (txtOf "None")) σ) : FmtV c d fx .none σ Q := fun ρ s A x R r v => by
  cases v using VR.noneC with
  | none => exact SB.convS_none (SB.field_str (fun t'' k' => Post.same r rfl rfl rfl (.str _ rfl) q) (by decide))
theorem FmtV.fmtBool {b : Bool} (q : Q (.str (txtOf (if b then "True" else "False"))) σ) : FmtV c d fx (.bool b) σ Q := fun ρ s A x R r v => by
  cases v using VR.boolC with
  | bool => cases b <;> exact SB.convS_bool (SB.field_str (fun t'' k' => Post.same r rfl rfl rfl (.str _ rfl) q) (by decide))
inductive StrI (Q : V → St → Prop) (loc : List (Str × V)) (v : V) (hp' : List O) : Prop
  | mk (l : List Nat) (e : v = .str l) (hl : l.length ≤ sizeLine) (q : Q (.str l) ⟨loc, hp'⟩) : StrI Q loc v hp'
theorem FmtV.fmtExc {i j : Nat} {C f : Addr} {a : V} {b : Bool} {kvs : List (Str × V)} (k : Nat) (h1 : σ.hp[i]? = some (.exc C (some j) a b)) (h2 : σ.hp[j]? = some (.ns kvs)) (h3 : findIn c.K (.ref C) "__str__" = some (some (.ref f))) (h4 : isFn c.K (.ref f) = true)
    (h : FV c k (.top f) [.ref i] σ.hp (StrI Q σ.loc)) (hk : k ≤ d) : FmtV c d fx (.ref i) σ Q := fun ρ s A x R r v => by
  cases v using VR.refC with
  | ref hx =>
    rename_i x'
    obtain ⟨x'', dx, t0, vs, es, n, g1, g2, g3, g4, g5, I, g6, g7⟩ := r.1.toHRel.excD h1 h2
    have ex := Option.some.inj (hx.symm.trans g1)
    subst ex
    show wpAny _ _ (pyStrObj (.ref x')) _ _ _
    refine kfo_str R.c (r.1.ok.k.keeps r.1.keep) I h3 h4 ?_
    refine wpAny_mono (callFV (Q := fun v σ' => ∃ l, v = .str l ∧ l.length ≤ sizeLine ∧ Q (.str l) σ') R hk r (.top f) (.cons (.ref hx) .nil) (h.mono fun v hp' ⟨l, e, hl, q⟩ => ⟨l, e, hl, q⟩)) ?_ fun _ _ z => z
    rintro y s₁ ⟨ρ₁, _, σ₁, p₁, e₁, r₁, v₁, l, rfl, hl, q⟩
    cases v₁ using VR.strC with
    | str t e =>
      rename_i y
      have hy : y.length ≤ sizeLine := by rw [← e] at hl; simpa [Str.length] using hl
      exact SB.field_str (fun t'' k' => (Post.same (s := s₁) (s' := { s₁ with toks := k' }) r₁ rfl rfl rfl (.str t'' e) q).trans p₁ e₁ r₁) hy
theorem OVs.strE {i j : Nat} {C f : Addr} {a : V} {b : Bool} {kvs : List (Str × V)} (k : Nat) (h1 : σ.hp[i]? = some (.exc C (some j) a b)) (h2 : σ.hp[j]? = some (.ns kvs)) (h3 : findIn c.K (.ref C) "__str__" = some (some (.ref f))) (h4 : isFn c.K (.ref f) = true)
    (h : FV c k (.top f) [.ref i] σ.hp (StrI Q σ.loc)) (hk : k + 2 ≤ d) : OVs c d fx (fun xs => PySem.call (.type "str") xs) [.ref i] σ Q := fun ρ s A xs R r va => by
  cases va using VRs.consC with
  | cons v1 v2 =>
    cases v2 using VRs.nilC
    cases v1 using VR.refC with
    | ref hx =>
      rename_i x'
      obtain ⟨x'', dx, t0, vs, es, n, g1, g2, g3, g4, g5, I, g6, g7⟩ := r.1.toHRel.excD h1 h2
      have ex := Option.some.inj (hx.symm.trans g1)
      subst ex
      have R2 : Room c k A.in1.in1 := ((R.le hk).in1).in1
      refine kso_call R2.c (r.1.ok.k.keeps r.1.keep) I h3 h4 ?_
      refine wpAny_mono (callFV (d := k) (Q := fun v σ' => ∃ l, v = .str l ∧ l.length ≤ sizeLine ∧ Q (.str l) σ') R2 (Nat.le_refl _) r (.top f) (.cons (.ref hx) .nil) (h.mono fun v hp' ⟨l, e, hl, q⟩ => ⟨l, e, hl, q⟩)) ?_ fun _ _ z => z
      rintro y s₁ ⟨ρ₁, _, σ₁, p₁, e₁, r₁, v₁, l, rfl, hl, q⟩
      cases v₁ using VR.strC with
      | str t e => exact ⟨ρ₁, _, σ₁, p₁, e₁, r₁, .str t e, q⟩
inductive PartI (c : Cx) (d : Nat) (fx : Fx) (acc : List Nat) (K : List Nat → St → Prop) (v : V) (σ : St) : Prop
  | mk (l : List Nat) (e : v = .str l) (hl : (acc ++ l).length ≤ sizeLine) (q : K (acc ++ l) σ) : PartI c d fx acc K v σ
noncomputable def EJ (c : Cx) (d : Nat) (fx : Fx) : List (Sem Value) → List Nat → St → (V → St → Prop) → Prop
  | [], acc, σ, Q => Q (.str acc) σ
  | x :: rest, acc, σ, Q => EV c d fx x σ (PartI c d fx acc fun acc' σ' => EJ c d fx rest acc' σ' Q)
theorem joins_of {R : Value → Shared → Prop} (RA : Room c d A) : ∀ (parts : List (Sem Value)) (acc : Str) (l : List Nat) (σ : St) (ρ : List Addr) (s : Shared), acc.cps.toList = l → l.length ≤ sizeLine → RelS c fx ρ σ s → EJ c d fx parts l σ Q →
    (∀ x s', Post c fx ρ s Q x s' → R x s') → Joins c.M A noE parts acc (fun out s₁ => out.length ≤ sizeLine ∧ R (.str out s₁.toks) { s₁ with toks := s₁.toks + 1 }) s
  | [], acc, l, σ, ρ, s, e, hl, r, q, k => ⟨by rw [← e] at hl; simpa [Str.length] using hl, k _ _ (Post.same r rfl rfl rfl (.str _ e) q)⟩
  | x :: rest, acc, l, σ, ρ, s, e, hl, r, q, k => by
    refine wpAny_mono (q ρ s A RA r) ?_ fun _ _ z => z
    rintro y s₁ ⟨ρ₁, _, σ₁, p₁, e₁, r₁, v₁, l', rfl, hl', q'⟩
    cases v₁ using VR.strC with
    | str t e' =>
      rename_i y
      have e2 : (acc ++ y).cps.toList = l ++ l' := by rw [← e, ← e']; show (acc.cps ++ y.cps).toList = _; simp
      refine ⟨y, t, rfl, by rw [← e2] at hl'; simpa [Str.length] using hl', ?_⟩
      exact joins_of RA rest (acc ++ y) (l ++ l') σ₁ ρ₁ s₁ e2 hl' r₁ q' fun x s' z => k x s' (z.trans p₁ e₁ r₁)
theorem EV.joined {v₁ v₂ : Expr} {rest : List Expr} {pos : Pos} (h : EJ c d fx (evalEach (v₁ :: v₂ :: rest) fx.env) [] σ Q) : EV c d fx (eval (.JoinedStr (v₁ :: v₂ :: rest) pos) fx.env) σ Q := fun ρ s A R r =>
  wpAny_JoinedStr (joins_of R _ Str.empty [] σ ρ s rfl (by simp) r h fun x s' z => z)
theorem EJ.cons {e : Expr} {rest : List Expr} {acc : List Nat} (h : EV c d fx (eval e fx.env) σ (PartI c d fx acc fun acc' σ' => EJ c d fx (evalEach rest fx.env) acc' σ' Q)) : EJ c d fx (evalEach (e :: rest) fx.env) acc σ Q := h
theorem EJ.nil {acc : List Nat} (h : Q (.str acc) σ) : EJ c d fx (evalEach [] fx.env) acc σ Q := h
end
end Mine
namespace Mine
open PySem PySem.W PyProof.Rows
noncomputable def FVk (c : Cx) (k : Nat) (f : V) (vs : List V) (kn : List Str) (kv : List V) (hp : List O) (Q : V → List O → Prop) : Prop :=
  ∀ ρ s A x xs ys, Room c k A → c.Ok → HRelS c ρ hp s → VR ρ s.heap f x → VRs ρ s.heap vs xs → VRs ρ s.heap kv ys → codeAny c.M A (.call x ⟨xs, kn.zip ys⟩) (FPost c ρ s Q) s
section
variable {c : Cx} {d k : Nat} {fx : Fx} {ρ ρ' ρ'' : List Addr} {σ σ' : St} {h h' h'' : Heap} {s s' s₁ : Shared} {A : Around} {Q : V → St → Prop} {X : Fl → St → Prop}
  {loc loc' : List (Str × V)} {hp hp' : List O}
theorem FVk.fv {f : V} {vs : List V} {Q : V → List O → Prop} (h : FVk c k f vs [] [] hp Q) : FV c k f vs hp Q := fun ρ s A x xs R ok r vf va => h ρ s A x xs [] R ok r vf va .nil
theorem Room.makeK (r : Room c (k + 1) A) (C : Addr) (vals : List Value) (kw : List (Str × Value)) : Room c k (A.under (.builtin "type.__call__" ⟨.ref C :: vals, kw⟩)) := by
  refine ⟨r.1, ?_, ?_, Nat.le_of_succ_le r.4, fun e => absurd r.4 (by omega), r.6⟩
  · have := r.2; show A.depth + 1 + _ < _; omega
  · have := r.3; show A.units + 1 + _ < _; omega
theorem FVk.newE {C fI : Addr} {vs kv : List V} {kn : List Str} {Q : V → List O → Prop} (hm : makesExcIn c.K C = true) (hi : findIn c.K (.ref C) "__init__" = some (some (.ref fI))) (hf : typeIn c.K (.ref fI) = some (.type "function")) (hl : vs.length ≤ 100)
    (h : FVk c k (.top fI) (.ref hp.length :: vs) kn kv (hp ++ [.exc C none (.tup vs) false]) (fun v hp' => v = .none ∧ Q (.ref hp.length) hp')) : FVk c (k + 1) (.top C) vs kn kv hp Q := fun ρ s A x xs ys R ok r vf va vk => by
  cases vf using VR.topC
  have X := ok.k.keeps r.1.keep
  obtain ⟨hh, g, dd, t, os⟩ := s
  refine excMake (makesExc_of X hm) (looks_findIn X hi) (fun self => bind_fn X self hf) (by rw [← va.length, sizeLine_eq]; omega) ?_
  have r1 : HRel c ρ hp (hh.push (tupObj xs.toArray 0)) := r.1.push_ _
  have hr : OR (ρ ++ [(hh.push (tupObj xs.toArray 0)).objs.size]) ((hh.push (tupObj xs.toArray 0)).push (excObj C none #[.ref hh.objs.size, .none, .none, .none, .bool false, .none])) (.exc C none (.tup vs) false) (excObj C none #[.ref hh.objs.size, .none, .none, .none, .bool false, .none]) :=
    ⟨none, _, _, _, _, _, _, rfl, .tup (Heap.get?_push_of_some _ (Heap.get?_push_size _ rfl)) (va.mono (List.prefix_append ..) fun b o _ e => Heap.get?_push_of_some _ (Heap.get?_push_of_some _ e)), trivial, fun _ => ⟨rfl, rfl, rfl, rfl, rfl⟩⟩
  have r2 := r1.alloc rfl hr
  rw [Heap.size_push] at r2
  have kk : ∀ b o, hh.get? b = some o → ((hh.push (tupObj xs.toArray 0)).push (excObj C none #[.ref hh.objs.size, .none, .none, .none, .bool false, .none])).get? b = some o := fun b o e => Heap.get?_push_of_some _ (Heap.get?_push_of_some _ e)
  have pr : ρ <+: ρ ++ [hh.objs.size + 1] := List.prefix_append ..
  have hw := h (ρ ++ [hh.objs.size + 1]) ⟨(hh.push (tupObj xs.toArray 0)).push (excObj C none #[.ref hh.objs.size, .none, .none, .none, .bool false, .none]), g, dd, t, os⟩ _ (.ref fI) (.ref (hh.objs.size + 1) :: xs) ys (R.makeK C xs (kn.zip ys)) ok ⟨r2, r.2⟩ (.top fI)
    (.cons (.ref (by rw [← r.1.len]; simp)) (va.mono pr fun b o _ e => kk b o e)) (vk.mono pr fun b o _ e => kk b o e)
  refine codeAny_mono hw ?_
  rintro _ s' ⟨ρ', v, hp', y, rfl, e', r', v', rfl, q⟩
  cases v' using VR.noneC
  refine ⟨rfl, ρ', .ref hp.length, hp', _, rfl, ⟨pr.trans e'.pre, fun a m => ?_, fun b o n e => e'.keep b o (fun m => ?_) (kk b o e)⟩, r', .ref (pre_get e'.pre (by rw [← r.1.len]; simp)), q⟩
  · rcases e'.new a m with m | z
    · rcases List.mem_append.mp m with m | m
      · exact .inl m
      · right
        refine get_none_of_lt ?_
        simp at m
        rw [m]; exact Nat.le_succ _
    · right
      cases y : hh.get? a with
      | none => rfl
      | some o => have := kk _ _ y; rw [show ((hh.push (tupObj xs.toArray 0)).push (excObj C none #[.ref hh.objs.size, .none, .none, .none, .bool false, .none])).get? a = none from z] at this; cases this
  · rcases List.mem_append.mp m with m | m
    · exact n m
    · have lt : b < hh.objs.size := Heap.lt_size e
      simp at m
      have lt' : hh.objs.size + 1 < hh.objs.size := m ▸ lt
      omega

theorem FVk.defD {a T : Addr} {name qual : Str} {params : Arguments} {body : List Stmt} {scope : Scope} {kV doc pm cd ct oc toc : Value} {an od tod : Option Addr} {osl tsl : Array (Option Value)} {items : Array Value} {tn : Nat} {ns kn : List Str} {vs kv us : List V} {Q : V → List O → Prop}
    (sel : List Value → List Value → List Value)
    (hK : c.K.lookup a = some ⟨oc, od, .func (fnX name qual params body scope [] (.ref T) kV doc pm an cd ct), osl⟩) (hT : c.K.lookup T = some ⟨toc, tod, .seq items tn, tsl⟩) (hcd : codeIn c.K cd qual = true)
    (hb : ∀ xs ys : List Value, vs.length = xs.length → kv.length = ys.length → ∃ kk, bindArgs (fnX name qual params body scope [] (.ref T) kV doc pm an cd ct) ⟨xs, kn.zip ys⟩ = seqItems? (.ref T) >>= kk ∧ kk (some items) = pure (ns.zip (sel xs ys)))
    (hu : ∀ ρ h xs ys, VRs ρ h vs xs → VRs ρ h kv ys → VRs ρ h us (sel xs ys)) (hl : ns.length = us.length) (hnd : ns.Nodup)
    (hloc : ∀ n ∈ ns, scope.names.lookup n = some .local) (hcell : ∀ x ∈ scope.names, x.2 ≠ .cell)
    (h : ∀ L ρ₀, ρ₀.length = hp.length → XV c k ⟨envX qual scope L a cd [], [], ρ₀⟩ (execs body (envX qual scope L a cd [])) ⟨ns.zip us, hp⟩ (retQ Q))
    (hco : scope.isCoroutine = false := by rfl) (hgen : scope.isGenerator = false := by rfl) (hk : scope.kind = .function := by rfl) :
    FVk c (k + 1) (.top a) vs kn kv hp Q := fun ρ s A x xs ys R ok r vf va vk => by
  cases vf using VR.topC
  have X := ok.k.keeps r.1.keep
  have vu := hu _ _ _ _ va vk
  obtain ⟨kk, h1, h2⟩ := hb xs ys va.length vk.length
  generalize sel xs ys = bs at vu h2
  refine codeAny_call_def (fd := fnX name qual params body scope [] (.ref T) kV doc pm an cd ct) R.limit (X _ _ hK) rfl (ok.t.nolimit.keeps r.1.keep) (codeRec_of X hcd) rfl (.of_defaults rfl (X _ _ hT) rfl h1 h2) hcell (fun y hy => hloc _ ?_) (fun h₁ hn hk₁ => ?_) hco hgen hk
  · obtain ⟨n, v⟩ := y
    exact (List.of_mem_zip hy).1
  · have hw := h s.heap.objs.size ρ r.1.len ρ { s with heap := h₁, toks := s.toks + (ns.zip bs).length } (A.deeper (envX qual scope s.heap.objs.size a cd [])) (R.deeper _)
      ⟨Rel.enter (env := envX qual scope s.heap.objs.size a cd []) ok r.1 rfl rfl rfl hk trivial vu hl hnd hn hk₁, r.2⟩
    refine wpAny_mono hw (fun fl s' z => ?_) fun _ _ z => z.elim
    have := FPost.of (env := envX qual scope s.heap.objs.size a cd []) (cl := []) hk₁ (get_none_of_lt (Nat.le_refl _)) z
    cases fl <;> exact this
end
end Mine
namespace Mine
open PySem PySem.W PyProof.Rows
theorem runs_toks {M : Model} {Γ : Ctx} {p : Pos} {t : Sem Fin} {fs : List Frame} {s s' : Shared} {e : End} (h : Runs M Γ p t fs s e s') : s.toks ≤ s'.toks := by
  induction h with
  | done => exact Nat.le_refl _
  | raise => exact Nat.le_refl _
  | yield => exact Nat.le_refl _
  | fresh _ ih => exact Nat.le_trans (Nat.le_succ _) ih
  | call _ _ ih1 ih2 => exact Nat.le_trans ih1 ih2
  | resumeFresh _ _ _ _ ih1 ih2 => exact Nat.le_trans ih1 ih2
  | resumeSuspended _ _ _ _ ih1 ih2 => exact Nat.le_trans ih1 ih2
  | segRet _ _ ih1 ih2 => exact Nat.le_trans ih1 ih2
  | segGen _ _ ih1 ih2 => exact Nat.le_trans ih1 ih2
  | segSuspGen _ _ _ _ ih1 ih2 => exact Nat.le_trans ih1 ih2
  | _ => assumption
theorem wakes_toks {M : Model} {Γ : Ctx} {p : Pos} {g : Nat} {r : Resume} {s s' : Shared} {res : GenResult} (h : Wakes M Γ p g r s res s') : s.toks ≤ s'.toks := by
  unfold Wakes at h
  cases hg : s.gens[g]? with
  | none => rw [hg] at h; exact h.elim
  | some gs =>
    rw [hg] at h
    cases gs with
    | fresh c =>
      cases r with
      | send v =>
        cases v with
        | none => obtain ⟨e₁, s₁, h1, _, _, rfl⟩ := h; have := runs_toks h1; exact this
        | _ => obtain ⟨_, rfl⟩ := h; exact Nat.le_refl _
      | throw x => obtain ⟨_, rfl⟩ := h; exact Nat.le_refl _
    | suspended k₀ a c₀ p₀ fs b => obtain ⟨e₁, s₁, h1, _, _, rfl⟩ := h; have := runs_toks h1; exact this
    | running => obtain ⟨_, rfl⟩ := h; exact Nat.le_refl _
    | finished => obtain ⟨_, rfl⟩ := h; exact Nat.le_refl _
theorem wp_toks {α : Type} {M : Model} {Γ : Ctx} (t : Sem α) {Q : α → Pos → Shared → Prop} {E : Value → Pos → Shared → Prop} : ∀ (p : Pos) (s : Shared) (n : Nat), n ≤ s.toks → Sem.wp M Γ t Q E p s →
    Sem.wp M Γ t (fun a p' s' => Q a p' s' ∧ n ≤ s'.toks) (fun e p' s' => E e p' s' ∧ n ≤ s'.toks) p s := by
  induction t with
  | pure x => exact fun p s n hn h => ⟨h, hn⟩
  | raise v => exact fun p s n hn h => ⟨h, hn⟩
  | unsupported | finish | yield | fork | await | register => exact fun p s n hn h => h
  | rule _ k ih | «at» _ k ih | alloc _ k ih | loadIfAlive _ k ih | point _ k ih | ask k ih | os _ _ k ih | handled _ k ih | newGen _ k ih | stack k ih | thread k ih => exact fun p s n hn h => ih _ _ _ n hn h
  | fresh k ih => exact fun p s n hn h => ih _ _ _ n (Nat.le_succ_of_le hn) h
  | load a _ k ih | genState a k ih => exact fun p s n hn ⟨o, ho, h⟩ => ⟨o, ho, ih _ _ _ n hn h⟩
  | update a _ f k ih | choose _ _ k ih => exact fun p s n hn ⟨ha, h⟩ => ⟨ha, ih _ _ _ n hn h⟩
  | call c h g l k ih => exact fun p s n hn ⟨r, s', hr, h⟩ => ⟨r, s', hr, ih _ _ _ n (Nat.le_trans hn (runs_toks hr)) h⟩
  | resume g r l k ih => exact fun p s n hn ⟨res, s', hw, h⟩ => ⟨res, s', hw, ih _ _ _ n (Nat.le_trans hn (wakes_toks hw)) h⟩
theorem wpAny_toks {α : Type} {M : Model} {A : Around} {t : Sem α} {Q : α → Shared → Prop} {E : Value → Shared → Prop} {s : Shared} {n : Nat} (hn : n ≤ s.toks) (h : wpAny M A t Q E s) : wpAny M A t (fun a s' => Q a s' ∧ n ≤ s'.toks) E s :=
  fun Γ p hΓ => Sem.wp_mono M Γ t (fun _ _ _ z => z) (fun _ _ _ z => z.1) p s (wp_toks t p s n hn (h Γ p hΓ))
end Mine
namespace Mine
open PySem PySem.W PyProof.Rows PySem.SeqAt
section
variable {c : Cx} {d k : Nat} {fx : Fx} {ρ ρ' ρ'' : List Addr} {σ σ' : St} {h h' h'' : Heap} {s s' s₁ : Shared} {A : Around} {Q : V → St → Prop} {X : Fl → St → Prop}
  {loc loc' : List (Str × V)} {hp hp' : List O}

theorem Rel.forget (r : Rel c fx ρ ⟨loc, hp⟩ h) : Rel c fx ρ ⟨[], hp⟩ h :=
  { toHRel := r.toHRel, ok := r.ok, loc := let ⟨m, hm, _⟩ := r.loc; ⟨m, hm, fun _ _ e => by cases e⟩, lfresh := r.lfresh, lapart := r.lapart, pre := r.pre, glob := r.glob, bltn := r.bltn, kind := r.kind, cells := r.cells }
noncomputable def EVn (n0 : Nat) (c : Cx) (d : Nat) (fx : Fx) (t : Sem Value) (σ : St) (Q : V → St → Prop) : Prop :=
  ∀ ρ s A, Room c d A → RelS c fx ρ σ s → n0 ≤ s.toks → wpAny c.M A t (Post c fx ρ s Q) noE s
noncomputable def EVq (n0 : Nat) (c : Cx) (d : Nat) (fx : Fx) (t : Sem Value) (σ : St) (Q : V → St → Prop) : Prop := match n0 with
  | 0 => EV c d fx t σ Q
  | n + 1 => EVn (n + 1) c d fx t σ Q
theorem EVq.run {n0 : Nat} {t : Sem Value} (h : EVq n0 c d fx t σ Q) (R : Room c d A) (r : RelS c fx ρ σ s) (hn : n0 ≤ s.toks) : wpAny c.M A t (Post c fx ρ s Q) noE s := by
  cases n0 with
  | zero => exact h ρ s A R r
  | succ n => exact h ρ s A R r hn
theorem wpT {α : Type} {M : Model} {t : Sem α} {Q : α → Shared → Prop} {E : Value → Shared → Prop} {n : Nat} (hn : n ≤ s.toks) (h : wpAny M A t (fun a s' => n ≤ s'.toks → Q a s') E s) : wpAny M A t Q E s :=
  wpAny_mono (wpAny_toks hn h) (fun _ _ z => z.1 z.2) fun _ _ e => e
noncomputable def CTn (n0 : Nat) (c : Cx) (d : Nat) (fx : Fx) (ifs : List Expr) (elt : Expr) (σ : St) (P : Option V → St → Prop) : Prop := match ifs with
  | [] => EVq n0 c d fx (eval elt fx.env) σ (fun v σ₁ => P (some v) σ₁)
  | [t] => TV c d fx t σ (fun b σ₁ => (b = true → EVq n0 c d fx (eval elt fx.env) σ₁ (fun v σ₂ => P (some v) σ₂)) ∧ (b = false → P none σ₁))
  | _ => False
noncomputable abbrev CTP (I : Nat → List V → List O → Prop) (a i : Nat) (acc : List V) : Option V → St → Prop := fun ov σ₂ => match ov with
  | some v => σ₂.hp[a]? = some (.list acc) ∧ acc.length < 2 ^ 20 ∧ I (i + 1) (acc ++ [v]) (σ₂.hp.set a (.list (acc ++ [v])))
  | none => I (i + 1) acc σ₂.hp
noncomputable def CompOkN (n0 : Nat) (c : Cx) (d : Nat) (fx : Fx) (x : Str) (ifs : List Expr) (elt : Expr) (scope : Scope) (cl' : List (Str × Nat)) (n : Nat) (item : Nat → V) (Cn : St → Prop) (I : Nat → List V → List O → Prop) (a : Nat) : Prop :=
  (∀ i acc hp, I i acc hp → hp[a]? = some (.list acc) ∧ ∀ loc, Cn ⟨loc, hp⟩) ∧
  (∀ C clos ρ₀, ∀ i acc hp, i < n → I i acc hp → CTn n0 c d ⟨compEnvC scope clos C fx.env, cl', ρ₀⟩ ifs elt ⟨[(x, item i)], hp⟩ (CTP I a i acc))

noncomputable abbrev CompOk := CompOkN 0
noncomputable def CompOkT (n0 : Nat) (c : Cx) (d : Nat) (fx : Fx) (tgt : Expr) (ifs : List Expr) (elt : Expr) (scope : Scope) (cl' : List (Str × Nat)) (n : Nat) (item : Nat → V) (Cn : St → Prop) (I : Nat → List V → List O → Prop) (a : Nat) : Prop :=
  (∀ i acc hp, I i acc hp → hp[a]? = some (.list acc) ∧ ∀ loc, Cn ⟨loc, hp⟩) ∧
  (∀ C clos ρ₀, ∀ i acc hp, i < n → I i acc hp → OU1 c d ⟨compEnvC scope clos C fx.env, cl', ρ₀⟩ (fun y => PySem.assign tgt (compEnvC scope clos C fx.env) y) (item i) ⟨[], hp⟩ (fun _ σ => CTn n0 c d ⟨compEnvC scope clos C fx.env, cl', ρ₀⟩ ifs elt σ (CTP I a i acc)))
noncomputable abbrev GoOk (c : Cx) (tgt : Expr) (it : Addr) (J : Nat → Heap → Prop) : Prop := ∀ (A : Around) i (s : Shared) x (R : Unit → Shared → Prop) (E : Value → Shared → Prop), J i s.heap → R () s → wpAny c.M A (letOwnedTupleGo tgt (.ref it) x) R E s
noncomputable def SrcT (c : Cx) (fx : Fx) (tgt : Expr) (v : V) (σ : St) (n : Nat) (item : Nat → V) (Cn : St → Prop) : Prop :=
  ∀ ρ (s : Shared) A x (R : Value → Shared → Prop) (E : Value → Shared → Prop), A.handled = c.hd.map Value.ref → RelS c fx ρ σ s → VR ρ s.heap v x →
    (∀ it J h' tk, (∀ b o, s.heap.get? b = some o → h'.get? b = some o) → s.heap.objs.size ≤ h'.objs.size → s.heap.get? it = none → c.H₀.get? it = none → It c ρ it n item Cn J → GoOk c tgt it J → J 0 h' → R (.ref it) { s with heap := h', toks := tk }) → wpAny c.M A (pyIter x) R E s
theorem Src.name {x : Str} {px : Pos} {v : V} {n : Nat} {item : Nat → V} {Cn : St → Prop} (S : Src c fx v σ n item Cn) : SrcT c fx (.Name x px) v σ n item Cn := fun ρ s A y R E hh r hv q =>
  S ρ s A y R E hh r hv fun it J h' tk a1 a2 a3 a4 a5 a6 => q it J h' tk a1 a2 a3 a4 a5 (fun A' i s' z R' E' _ hR => wpAny_pure hR) a6
theorem testsT {elt target iter : Expr} {ifs : List Expr} {scope : Scope} {pos : Pos} {it acc : Value} {env : Env} {prog : Program} {w : World} {RR : Result → Shared → Prop} (I : Nat → Shared → Prop)
    (turn : ∀ n s, I n s → wpAny (model prog w) A (pyNext it) (fun r s₁ => match r with
      | none => RR (.ok .next) s₁
      | some v => wpAny (model prog w) A (letOwnedTupleGo target it v) (fun _ s₁ => wpAny (model prog w) A (PySem.assign target env v) (fun _ s₂ =>
          wpAny (model prog w) A (forIn ifs true fun c r => if r = true then do let ok ← isTrue c env (eval c env); pure (ForInStep.yield ok) else pure (ForInStep.yield r)) (fun ok s₃ =>
            if ok = true then wpAny (model prog w) A (eval elt env) (fun x s₄ =>
              wpAny (model prog w) A (PySem.call (.builtin "list.append") [acc, x]) (fun _ s₅ => ∃ m, m < n ∧ I m s₅) (notedBy (model prog w) A env fun e s' => RR (.error e) s') s₄) (notedBy (model prog w) A env fun e s' => RR (.error e) s') s₃
            else ∃ m, m < n ∧ I m s₃) (notedBy (model prog w) A env fun e s' => RR (.error e) s') s₂) (notedBy (model prog w) A env fun e s' => RR (.error e) s') s₁) (notedBy (model prog w) A env fun e s' => RR (.error e) s') s₁) (notedBy (model prog w) A env fun e s' => RR (.error e) s') s)
    (n : Nat) (h : I n s) :
    codeAny (model prog w) A (.compLoop (.ListComp elt [⟨target, iter, ifs, 0⟩] scope pos) 0 it acc env) RR s := by
  refine codeAny_loop rfl I (fun n s hI => ?_) n h
  show wpAny _ A ((compTurn (.ListComp elt [⟨target, iter, ifs, 0⟩] scope pos) 0 it acc env).onRaise (fun x => do noteFrame x env; theTreesLotGoes x)) _ _ s
  refine wpAny_noted ?_
  rw [compTurn_list]
  refine wpAny_bind (wpAny_standAt (wpAny_bind (wpAny_mono (turn n s hI) (fun r s₁ h₁ => ?_) fun _ _ h' => h')))
  cases r with
  | none => exact wpAny_pure h₁
  | some v =>
    refine wpAny_bind (wpAny_mono h₁ (fun _ s₁ h₁ => ?_) fun _ _ h' => h')
    refine wpAny_bind (wpAny_mono h₁ (fun _ s₂ h₂ => wpAny_bind (wpAny_mono h₂ (fun ok s₃ h₃ => ?_) fun _ _ h' => h')) fun _ _ h' => h')
    cases ok with
    | false => exact wpAny_pure ⟨rfl, h₃⟩
    | true =>
      exact wpAny_bind (wpAny_bind (wpAny_mono h₃ (fun x s₄ h₄ => wpAny_bind (wpAny_mono h₄ (fun _ s₅ h₅ => wpAny_pure (wpAny_pure ⟨rfl, h₅⟩)) fun _ _ h' => h')) fun _ _ h' => h'))
theorem compLoopV {n0 : Nat} {elt iter tgt : Expr} {ifs : List Expr} {scope : Scope} {pos : Pos} {cl' : List (Str × Nat)} {clos : List (Str × Addr)} {C it aa : Addr} {n a : Nat} {item : Nat → V} {Cn : St → Prop} {J : Nat → Heap → Prop} {I : Nat → List V → List O → Prop}
    {RR : Result → Shared → Prop} {s₀ : Shared} (R : Room c d A) (T : It c ρ it n item Cn J) (hgo : GoOk c tgt it J)
    (ok : CompOkT n0 c d fx tgt ifs elt scope cl' n item Cn I a) (hpre : ρ <+: ρ') (ha : ρ'[a]? = some aa)
    (r : RelS c ⟨compEnvC scope clos C fx.env, cl', ρ'⟩ ρ' ⟨[], hp⟩ s) (hk₀ : ∀ b o, s₀.heap.get? b = some o → s.heap.get? b = some o)
    (hit : it ∉ ρ') (hit0 : c.H₀.get? it = none) (hitC : it ≠ C) (hJ : J 0 s.heap) (hI : I 0 [] hp) (hn : n0 ≤ s.toks)
    (fin : ∀ ρ₁ s₁ acc hp₁, ρ' <+: ρ₁ → Ext ⟨compEnvC scope clos C fx.env, cl', ρ'⟩ ρ' s₀.heap ρ₁ s₁.heap ∨ True → (∀ b ∈ ρ₁, b ∈ ρ' ∨ s₀.heap.get? b = none) → (∀ b o, b ≠ it → b ≠ C → b ∉ ρ' → s₀.heap.get? b = some o → s₁.heap.get? b = some o) →
      RelS c ⟨compEnvC scope clos C fx.env, cl', ρ'⟩ ρ₁ ⟨[], hp₁⟩ s₁ → I n acc hp₁ → RR (.ok .next) s₁) :
    codeAny c.M A (.compLoop (.ListComp elt [⟨tgt, iter, ifs, 0⟩] scope pos) 0 (.ref it) (.ref aa) (compEnvC scope clos C fx.env)) RR s := by
  refine testsT (fun m s' => ∃ i ρ₁ acc hp₁, n - i = m ∧ i ≤ n ∧ (∀ b ∈ ρ₁, b ∈ ρ' ∨ s₀.heap.get? b = none) ∧ (∀ b o, b ≠ it → b ≠ C → b ∉ ρ' → s₀.heap.get? b = some o → s'.heap.get? b = some o) ∧ it ∉ ρ₁ ∧
    RelS c ⟨compEnvC scope clos C fx.env, cl', ρ'⟩ ρ₁ ⟨[], hp₁⟩ s' ∧ J i s'.heap ∧ I i acc hp₁ ∧ n0 ≤ s'.toks) ?_ n ⟨0, ρ', [], hp, rfl, Nat.zero_le _, fun _ m => .inl m, fun b o _ _ _ e => hk₀ b o e, hit, r, hJ, hI, hn⟩
  rintro m s₁ ⟨i, ρ₁, acc, hp₁, hm, hin, hnw, hkp, hit1, r₁, j₁, hI₁, hn₁⟩
  obtain ⟨oi, hoi, hnf⟩ := T.at_ _ _ j₁
  have side : ∀ h', Keep [it] s₁.heap h' → Rel c ⟨compEnvC scope clos C fx.env, cl', ρ'⟩ ρ₁ ⟨[], hp₁⟩ h' := fun h' k => r₁.1.side k (fun b m => by rw [List.mem_singleton] at m; subst m; exact hit0) (fun b m => by rw [List.mem_singleton] at m; subst m; exact hit1)
    (fun m => by rw [List.mem_singleton] at m; exact hitC m.symm) (fun b m o e => by rw [List.mem_singleton] at m; subst m; rw [hoi] at e; cases e; exact hnf)
  have hp' : ρ' <+: ρ₁ := r₁.1.pre
  rcases Nat.lt_or_eq_of_le hin with hlt | rfl
  · refine wpT hn₁ ?_
    refine T.next ⟨compEnvC scope clos C fx.env, cl', ρ'⟩ i ρ₁ ⟨[], hp₁⟩ s₁ A _ _ hlt R.handled ((ok.1 _ _ _ hI₁).2 _) (hpre.trans hp') r₁ j₁ fun y h' tk hy j' k' htk => ?_
    have r₂ : RelS c ⟨compEnvC scope clos C fx.env, cl', ρ'⟩ ρ₁ ⟨[], hp₁⟩ { s₁ with heap := h', toks := tk } := ⟨side h' k', r₁.2⟩
    have keep2 : ∀ b o, b ≠ it → b ≠ C → b ∉ ρ' → s₀.heap.get? b = some o → h'.get? b = some o := fun b o h1 h2 h3 e => k' b o (fun m => h1 (List.mem_singleton.mp m)) (hkp b o h1 h2 h3 e)
    -- a later step of the turn
    have step : ∀ {ρ₂ : List Addr} {σ₂ : St} {s₂ : Shared}, Ext ⟨compEnvC scope clos C fx.env, cl', ρ'⟩ ρ₁ h' ρ₂ s₂.heap → RelS c ⟨compEnvC scope clos C fx.env, cl', ρ'⟩ ρ₂ σ₂ s₂ → ∀ acc', I (i + 1) acc' σ₂.hp → n0 ≤ s₂.toks →
        ∃ m', m' < m ∧ ∃ i ρ₁ acc hp₁, n - i = m' ∧ i ≤ n ∧ (∀ b ∈ ρ₁, b ∈ ρ' ∨ s₀.heap.get? b = none) ∧ (∀ b o, b ≠ it → b ≠ C → b ∉ ρ' → s₀.heap.get? b = some o → s₂.heap.get? b = some o) ∧ it ∉ ρ₁ ∧
          RelS c ⟨compEnvC scope clos C fx.env, cl', ρ'⟩ ρ₁ ⟨[], hp₁⟩ s₂ ∧ J i s₂.heap ∧ I i acc hp₁ ∧ n0 ≤ s₂.toks := fun {ρ₂ σ₂ s₂} e₂ r₂' acc' hI₂ hn₂ => by
      obtain ⟨loc₂, hp₂⟩ := σ₂
      have hit2 : it ∉ ρ₂ := fun q => by
        rcases e₂.new it q with q | q
        · exact hit1 q
        · obtain ⟨o, ho, _⟩ := T.at_ _ _ j'; rw [show h'.get? it = none from q] at ho; cases ho
      refine ⟨n - (i + 1), by omega, i + 1, ρ₂, acc', hp₂, rfl, hlt, fun b hb => ?_, fun b o h1 h2 h3 e => ?_, hit2, ⟨r₂'.1.forget, r₂'.2⟩, ?_, hI₂, hn₂⟩
      · rcases e₂.new b hb with q | q
        · exact hnw b q
        · by_cases hbρ : b ∈ ρ'
          · exact .inl hbρ
          · right
            cases ho : s₀.heap.get? b with
            | none => rfl
            | some o =>
              have hbi : b ≠ it := fun e => by subst e; exact hit2 hb
              have hbC : b ≠ C := fun e => by subst e; exact r₂'.1.lapart hb
              rw [keep2 b o hbi hbC hbρ ho] at q; cases q
      · refine e₂.keep b o (fun m => ?_) (keep2 b o h1 h2 h3 e)
        rcases List.mem_cons.mp m with m | m
        · exact h2 m
        · rcases hnw b m with q | q
          · exact h3 q
          · rw [q] at e; cases e
      · refine T.keep _ _ _ j' (fun o e => e₂.keep it o (fun m => ?_) e) (r₂.1.immKeep e₂.keep)
        rcases List.mem_cons.mp m with q | q
        · exact hitC q
        · exact hit1 q
    refine hgo A (i + 1) _ y _ _ j' ?_
    refine wpT (s := { s₁ with heap := h', toks := tk }) htk ?_
    refine wpAny_mono (ok.2 C clos ρ' i acc hp₁ hlt hI₁ ρ₁ { s₁ with heap := h', toks := tk } A y R r₂ hy) ?_ fun _ _ z => z.elim
    rintro _ s₂ ⟨ρ₂, σ₂, p₂, e₂, r₂', hturn⟩ hn₂
    have after : ∀ {ρ₃ : List Addr} {σ₃ : St} {s₃ : Shared}, Ext ⟨compEnvC scope clos C fx.env, cl', ρ'⟩ ρ₁ h' ρ₃ s₃.heap → RelS c ⟨compEnvC scope clos C fx.env, cl', ρ'⟩ ρ₃ σ₃ s₃ → n0 ≤ s₃.toks →
        EVq n0 c d ⟨compEnvC scope clos C fx.env, cl', ρ'⟩ (eval elt (compEnvC scope clos C fx.env)) σ₃ (fun v σ₂ => CTP I a i acc (some v) σ₂) →
        wpAny c.M A (eval elt (compEnvC scope clos C fx.env)) (fun x s₄ => wpAny c.M A (PySem.call (.builtin "list.append") [.ref aa, x]) (fun _ s₅ => ∃ m', m' < m ∧ ∃ i ρ₁ acc hp₁, n - i = m' ∧ i ≤ n ∧ (∀ b ∈ ρ₁, b ∈ ρ' ∨ s₀.heap.get? b = none) ∧ (∀ b o, b ≠ it → b ≠ C → b ∉ ρ' → s₀.heap.get? b = some o → s₅.heap.get? b = some o) ∧ it ∉ ρ₁ ∧
          RelS c ⟨compEnvC scope clos C fx.env, cl', ρ'⟩ ρ₁ ⟨[], hp₁⟩ s₅ ∧ J i s₅.heap ∧ I i acc hp₁ ∧ n0 ≤ s₅.toks) noE s₄) noE s₃ := fun {ρ₃ σ₃ s₃} e₃ r₃ hn₃ h₃ => by
      refine wpT hn₃ ?_
      refine wpAny_mono (h₃.run R r₃ hn₃) ?_ fun _ _ z => z
      rintro z s₄ ⟨ρ₄, v, σ₄, p₄, e₄, r₄, v₄, g1, g2, g3⟩ hn₄
      refine wpT hn₄ ?_
      have haa : ρ₄[a]? = some aa := pre_get r₄.1.pre ha
      refine wpAny_mono (OVs.append (c := c) (d := d) (Q := fun _ σ => σ = ⟨σ₄.loc, σ₄.hp.set a (.list (acc ++ [v]))⟩) g1 g2 rfl ρ₄ s₄ A [.ref aa, z] R r₄ (.cons (.ref haa) (.cons v₄ .nil))) ?_ fun _ _ z => z
      rintro _ s₅ ⟨ρ₅, _, _, p₅, e₅, r₅, _, rfl⟩ hn₅
      exact step ((e₃.trans e₄ r₃.1.hasL).trans e₅ r₄.1.hasL) r₅ _ g3 hn₅
    match ifs, hturn with
    | [], hturn => exact wpAny_tests_nil (by rw [if_pos rfl]; exact wpAny_mono (after e₂ r₂' hn₂ hturn) (fun _ _ q => wpAny_mono q (fun _ _ q => q) fun _ _ z => z.elim) fun _ _ z => z.elim)
    | [t], hturn =>
      refine wpAny_tests_one (wpT hn₂ (wpAny_mono (hturn ρ₂ s₂ A R r₂') ?_ fun _ _ z => z.elim))
      rintro b s₃ ⟨ρ₃, σ₃, p₃, e₃, r₃, h₃⟩ hn₃
      cases b with
      | true => rw [if_pos rfl]; exact wpAny_mono (after (e₂.trans e₃ r₂'.1.hasL) r₃ hn₃ (h₃.1 rfl)) (fun _ _ q => wpAny_mono q (fun _ _ q => q) fun _ _ z => z.elim) fun _ _ z => z.elim
      | false => rw [if_neg (by decide)]; exact step (e₂.trans e₃ r₂'.1.hasL) r₃ acc (h₃.2 rfl) hn₃
    | _ :: _ :: _, hturn => exact hturn.elim
  · refine T.done ⟨compEnvC scope clos C fx.env, cl', ρ'⟩ ρ₁ ⟨[], hp₁⟩ s₁ A _ _ R.handled ((ok.1 _ _ _ hI₁).2 _) (hpre.trans hp') r₁ j₁ fun h' tk k' => ?_
    exact fin ρ₁ _ acc hp₁ hp' (.inr trivial) hnw (fun b o h1 h2 h3 e => k' b o (fun m => h1 (List.mem_singleton.mp m)) (hkp b o h1 h2 h3 e)) ⟨side h' k', r₁.2⟩ hI₁

theorem compV {n0 : Nat} {elt iter tgt : Expr} {ifs : List Expr} {scope : Scope} {pos p0 : Pos} {cl' : List (Str × Nat)} {use : Option (Value → Sem Unit)} {RQ : Value → Shared → Prop} {F : V → St → Prop} (R : Room c d A) (r : RelS c fx ρ σ s) (hn : n0 ≤ s.toks)
    (hcl : cloV fx.cl scope.names [] = some cl') (hkind : scope.kind = .function) (hnames : scope.names.all (fun y => y.2 != .local || scope.names.lookup y.1 == some .local) = true) (hcell : scope.names.any (fun y => y.2 == .cell) = false)
    (h : EV c d fx (eval iter fx.env) σ (fun v σ₁ => ∃ n item Cn I, SrcT c fx tgt v σ₁ n item Cn ∧ I 0 [] (σ₁.hp ++ [.list []]) ∧ CompOkT n0 c d fx tgt ifs elt scope cl' n item Cn I σ₁.hp.length ∧ (∀ acc hp', I n acc hp' → F (.ref σ₁.hp.length) ⟨σ₁.loc, hp'⟩)))
    (hs : ∀ x, foldedSetIterable iter fx.env x = pure x)
    (fin : ∀ ρ' s' σ' v y C, ρ <+: ρ' → Ext fx ρ s.heap ρ' s'.heap → RelS c fx ρ' σ' s' → VR ρ' s'.heap v y → F v σ' → (∃ m, s'.heap.Ns C m) → C ∉ ρ' → C ≠ fx.env.locals → c.H₀.get? C = none → s.heap.get? C = none → compPost c.M A noE use RQ y C (.ok .next) s') :
    wpAny c.M A (comprehension (.ListComp elt [⟨tgt, iter, ifs, 0⟩] scope pos) scope fx.env p0 (newList []) false (eval iter fx.env) use) RQ noE s := by
  obtain ⟨clos, hc1, hc2⟩ := closure_V (r.1.cells.mono r.1.pre) hcl
  refine wpAny_comprehension_free rfl hs hc1 hkind (fun y hy hl => ?_) (wpT hn (wpAny_mono (h ρ s A R r) ?_ fun _ _ e => e))
  · have := List.all_eq_true.mp hnames y hy
    rw [hl] at this; simpa using this
  rintro xv s₁ ⟨ρ₁, v, ⟨loc₁, hp₁⟩, p₁, e₁, r₁, v₁, n, item, Cn, I, hsrc, hI0, hok, hF⟩ hn₁
  refine wpT hn₁ ?_
  refine hsrc ρ₁ s₁ A xv _ _ R.handled r₁ v₁ fun it J h₂ tk hk₂ hsz1 hnew h0 T hgo hJ htk => ?_
  have r₂ : RelS c fx ρ₁ ⟨loc₁, hp₁⟩ { s₁ with heap := h₂, toks := tk } := ⟨r₁.1.ext hk₂, r₁.2⟩
  have hit1 : it ∉ ρ₁ := fun m => by
    obtain ⟨_, _, x, _, _, hx, _⟩ := r₁.1.toHRel.mem m
    rw [hnew] at hx; cases hx
  have hitS : it < h₂.objs.size := by obtain ⟨o, ho, _⟩ := T.at_ _ _ hJ; exact Heap.lt_size ho
  refine wpAny_newObj_type (wpAny_newFunctionEnv (fun y hy e => ?_) (by intro y hy; simp at hy) (fun h₃ hns hsb => ?_) hkind)
  · have := List.any_eq_false.mp hcell y hy
    rw [e] at this; exact this rfl
  dsimp only at hns hsb ⊢
  generalize hH : h₂.push { cls := .type "list", dict := none, data := .seq ([] : List Value).toArray } = H at hns hsb ⊢
  have hr3 : Rel c fx (ρ₁ ++ [h₂.objs.size]) ⟨loc₁, hp₁ ++ [.list []]⟩ H := by
    rw [← hH]; exact r₂.1.alloc (o := .list []) rfl ⟨[], _, rfl, .nil⟩
  have hHs : H.objs.size = h₂.objs.size + 1 := by rw [← hH, Heap.size_push]
  have oldH : ∀ b o, H.get? b = some o → h₃.get? b = some o := fun b o e => hsb.extBut b o (Nat.ne_of_lt (Heap.lt_size e)) (Heap.get?_push_of_some _ e)
  have old2 : ∀ b o, h₂.get? b = some o → H.get? b = some o := fun b o e => by rw [← hH]; exact Heap.get?_push_of_some _ e
  have old : ∀ b o, s₁.heap.get? b = some o → h₃.get? b = some o := fun b o e => oldH b o (old2 b o (hk₂ b o e))
  have rC : Rel c ⟨compEnvC scope clos H.objs.size fx.env, cl', ρ₁ ++ [h₂.objs.size]⟩ (ρ₁ ++ [h₂.objs.size]) ⟨[], hp₁ ++ [.list []]⟩ h₃ :=
    Rel.enter (env := compEnvC scope clos H.objs.size fx.env) (ns := []) (vs := []) (xs := []) r₁.1.ok hr3.toHRel rfl r₁.1.glob r₁.1.bltn hkind ((hc2.mono p₁).mono (pre_snoc _ _)) .nil rfl .nil hns oldH
  have haa : (ρ₁ ++ [h₂.objs.size])[hp₁.length]? = some h₂.objs.size := by rw [← r₁.1.len]; simp
  have loop : ∀ s₃ : Shared, s₃ = ⟨h₃, s₁.gens, s₁.drawn, tk, s₁.os⟩ → codeAny c.M A (.compLoop (.ListComp elt [⟨tgt, iter, ifs, 0⟩] scope pos) 0 (.ref it) (.ref h₂.objs.size) (compEnvC scope clos H.objs.size fx.env)) (compPost c.M A noE use RQ (.ref h₂.objs.size) H.objs.size) s₃ := by
    rintro s₃ rfl
    refine compLoopV (s₀ := s₁) (ρ := ρ₁) (ρ' := ρ₁ ++ [h₂.objs.size]) (a := hp₁.length) R T hgo hok (pre_snoc _ _) haa ⟨rC, r₁.2⟩ old (fun m => ?_) h0 (fun e => ?_) (T.keep _ _ _ hJ (fun o e => oldH _ o (old2 _ o e)) fun b o _ e => oldH b o (old2 b o e)) hI0 htk fun ρ₄ s₄ acc hp₄ p₄ _ hnw hkp r₄ hIn => ?_
    · rcases List.mem_append.mp m with m | m
      · exact hit1 m
      · rw [List.mem_singleton.mp m] at hitS; exact Nat.lt_irrefl _ hitS
    · have q : it < H.objs.size := by rw [hHs]; exact Nat.lt_succ_of_lt hitS
      rw [e] at q; exact Nat.lt_irrefl _ q
    · have hD1 : s₁.heap.get? h₂.objs.size = none := get_none_of_lt hsz1
      have hC1 : s₁.heap.get? H.objs.size = none := get_none_of_lt (by rw [hHs]; exact Nat.le_succ_of_le hsz1)
      have fe : FExt ρ₁ s₁.heap ρ₄ s₄.heap := by
        refine ⟨(pre_snoc _ _).trans p₄, fun b hb => ?_, fun b o nb e => hkp b o (fun q => ?_) (fun q => ?_) (fun m => ?_) e⟩
        · rcases hnw b hb with q | q
          · rcases List.mem_append.mp q with q | q
            · exact .inl q
            · rw [List.mem_singleton] at q; subst q; exact .inr hD1
          · exact .inr q
        · subst q; rw [hnew] at e; cases e
        · subst q; rw [hC1] at e; cases e
        · rcases List.mem_append.mp m with q | q
          · exact nb q
          · rw [List.mem_singleton] at q; subst q; rw [hD1] at e; cases e
      have ro : RelS c fx ρ₄ ⟨loc₁, hp₄⟩ s₄ := ⟨r₁.1.after fe r₄.1.toHRel, r₄.2⟩
      obtain ⟨mC, hmC, _⟩ := r₄.1.loc
      have hCs : s.heap.get? H.objs.size = none := by
        cases q : s.heap.get? H.objs.size with
        | none => rfl
        | some o =>
          exfalso
          by_cases hm : H.objs.size ∈ fx.env.locals :: ρ
          · rcases List.mem_cons.mp hm with hm | hm
            · obtain ⟨o', ho'⟩ := r₁.1.hasL
              rw [← hm, hC1] at ho'; cases ho'
            · obtain ⟨i, hi, hi2⟩ := List.getElem_of_mem hm
              have := pre_get p₁ (List.getElem?_eq_some_iff.mpr ⟨hi, hi2⟩)
              obtain ⟨_, _, z, _, _, hz, _⟩ := r₁.1.toHRel.mem (mem_of_get? this)
              rw [hC1] at hz; cases hz
          · have := e₁.keep _ _ hm q
            rw [hC1] at this; cases this
      refine fin ρ₄ s₄ ⟨loc₁, hp₄⟩ (.ref hp₁.length) (.ref h₂.objs.size) H.objs.size (p₁.trans fe.pre) (e₁.trans fe.ext r₁.1.hasL) ro (.ref (pre_get p₄ haa)) (hF acc hp₄ hIn) ⟨mC, hmC⟩ r₄.1.lapart (fun e => ?_) r₄.1.lfresh hCs
      obtain ⟨o, ho⟩ := r₁.1.hasL
      rw [← e, hC1] at ho; cases ho
  exact codeAny_compStart_list (loop _ rfl) (T.self 0 _ _ _ _ (T.keep _ _ _ hJ (fun o e => oldH _ o (old2 _ o e)) fun b o _ e => oldH b o (old2 b o e)) (loop _ rfl))
end
end Mine
namespace Mine
open PySem PySem.W PyProof.Rows PySem.SeqAt
section
variable {c : Cx} {d k : Nat} {fx : Fx} {ρ ρ' ρ'' : List Addr} {σ σ' : St} {h h' h'' : Heap} {s s' s₁ : Shared} {A : Around} {Q : V → St → Prop} {X : Fl → St → Prop}
  {loc loc' : List (Str × V)} {hp hp' : List O}
theorem Ns.notFix {a : Addr} {m : Str → Option Value} (hn : h.Ns a m) {o : Obj} (e : h.get? a = some o) : ¬ Fix o := fun f => by
  obtain ⟨o', es, ep, e', hd, _⟩ := hn
  rw [e] at e'; cases e'
  exact f.notDict hd
theorem RelS.sideNs {C : Addr} {m : Str → Option Value} (r : RelS c fx ρ σ s) (hn : s.heap.Ns C m) (h1 : C ∉ ρ) (h2 : C ≠ fx.env.locals) (h3 : c.H₀.get? C = none) (hs : Heap.SameBut C s.heap h') : RelS c fx ρ σ { s with heap := h' } :=
  ⟨r.1.side (.of_sameBut hs) (fun b m => by rw [List.mem_singleton] at m; subst m; exact h3) (fun b m => by rw [List.mem_singleton] at m; subst m; exact h1) (fun m => by rw [List.mem_singleton] at m; exact h2 m.symm)
    (fun b m o e => by rw [List.mem_singleton] at m; subst m; exact Ns.notFix hn e), r.2⟩
theorem Ext.sideNs {C : Addr} {s₀ : Heap} (e : Ext fx ρ s₀ ρ' h) (h0 : s₀.get? C = none) (hs : Heap.SameBut C h h') : Ext fx ρ s₀ ρ' h' :=
  ⟨e.new, fun b o nb z => (hs.2 b (fun q => by subst q; rw [h0] at z; cases z)).trans (e.keep b o nb z)⟩

theorem compEVT {n0 : Nat} {elt iter tgt : Expr} {ifs : List Expr} {scope : Scope} {pos : Pos} {cl' : List (Str × Nat)}
    (hcl : cloV fx.cl scope.names [] = some cl')
    (h : EV c d fx (eval iter fx.env) σ (fun v σ₁ => ∃ n item Cn I, SrcT c fx tgt v σ₁ n item Cn ∧ I 0 [] (σ₁.hp ++ [.list []]) ∧ CompOkT n0 c d fx tgt ifs elt scope cl' n item Cn I σ₁.hp.length ∧ (∀ acc hp', I n acc hp' → Q (.ref σ₁.hp.length) ⟨σ₁.loc, hp'⟩)))
    (hkind : scope.kind = .function := by rfl) (hnames : scope.names.all (fun y => y.2 != .local || scope.names.lookup y.1 == some .local) = true := by decide +kernel) (hcell : scope.names.any (fun y => y.2 == .cell) = false := by decide +kernel)
    (hs : ∀ x, foldedSetIterable iter fx.env x = pure x := by intro _; rfl) :
    EVn n0 c d fx (eval (.ListComp elt [⟨tgt, iter, ifs, 0⟩] scope pos) fx.env) σ Q := fun ρ s A R r hn => by
  rw [eval_ListComp]
  refine compV (F := Q) R r hn hcl hkind hnames hcell h hs fun ρ' s' σ' v y C p e r' hv hF hN h1 h2 h3 h4 => ?_
  obtain ⟨m, hm⟩ := hN
  refine ⟨m, hm, fun h' hs' => ⟨ρ', v, σ', p, e.sideNs h4 hs', r'.sideNs hm h1 h2 h3 hs', ?_, hF⟩⟩
  refine hv.mono (List.prefix_refl _) fun b o f e' => (hs'.2 b (fun q => ?_)).trans e'
  subst q; exact Ns.notFix hm e' f
theorem EV.compT {elt iter tgt : Expr} {ifs : List Expr} {scope : Scope} {pos : Pos} {cl' : List (Str × Nat)}
    (hcl : cloV fx.cl scope.names [] = some cl')
    (h : EV c d fx (eval iter fx.env) σ (fun v σ₁ => ∃ n item Cn I, SrcT c fx tgt v σ₁ n item Cn ∧ I 0 [] (σ₁.hp ++ [.list []]) ∧ CompOkT 0 c d fx tgt ifs elt scope cl' n item Cn I σ₁.hp.length ∧ (∀ acc hp', I n acc hp' → Q (.ref σ₁.hp.length) ⟨σ₁.loc, hp'⟩)))
    (hkind : scope.kind = .function := by rfl) (hnames : scope.names.all (fun y => y.2 != .local || scope.names.lookup y.1 == some .local) = true := by decide +kernel) (hcell : scope.names.any (fun y => y.2 == .cell) = false := by decide +kernel)
    (hs : ∀ x, foldedSetIterable iter fx.env x = pure x := by intro _; rfl) :
    EV c d fx (eval (.ListComp elt [⟨tgt, iter, ifs, 0⟩] scope pos) fx.env) σ Q := fun ρ s A R r => compEVT (n0 := 0) hcl h hkind hnames hcell hs ρ s A R r (Nat.zero_le _)
theorem CompOkN.toT {n0 : Nat} {x : Str} {px : Pos} {ifs : List Expr} {elt : Expr} {scope : Scope} {cl' : List (Str × Nat)} {n : Nat} {item : Nat → V} {Cn : St → Prop} {I : Nat → List V → List O → Prop} {a : Nat} (hx : scope.names.lookup x = some .local)
    (ok : CompOkN n0 c d fx x ifs elt scope cl' n item Cn I a) : CompOkT n0 c d fx (.Name x px) ifs elt scope cl' n item Cn I a :=
  ⟨ok.1, fun C clos ρ₀ i acc hp hi hI => OU1.name (ok.2 C clos ρ₀ i acc hp hi hI) (lookup_relabel_local hx)⟩
theorem XV.assignComp {elt iter : Expr} {x y : Str} {px py : Pos} {ifs : List Expr} {scope : Scope} {pos spos : Pos} {cl' : List (Str × Nat)}
    (hcl : cloV fx.cl scope.names [] = some cl')
    (h : EV c d fx (eval iter fx.env) σ (fun v σ₁ => ∃ n item Cn I, Src c fx v σ₁ n item Cn ∧ I 0 [] (σ₁.hp ++ [.list []]) ∧ CompOk c d fx x ifs elt scope cl' n item Cn I σ₁.hp.length ∧ (∀ acc hp', I n acc hp' →
      OU1 c d fx (fun u => PySem.assign (.Name y py) fx.env u) (.ref σ₁.hp.length) ⟨σ₁.loc, hp'⟩ (fun _ σ₂ => X .next σ₂))))
    (hsw : swapsWith (.ListComp elt [⟨.Name x px, iter, ifs, 0⟩] scope pos) (some (.Name y py)) spos.line fx.env = pure true := by rfl)
    (hkind : scope.kind = .function := by rfl) (hnames : scope.names.all (fun y => y.2 != .local || scope.names.lookup y.1 == some .local) = true := by decide +kernel) (hcell : scope.names.any (fun y => y.2 == .cell) = false := by decide +kernel)
    (hx : scope.names.lookup x = some .local := by rfl) (hs : ∀ x, foldedSetIterable iter fx.env x = pure x := by intro _; rfl) :
    XV c d fx (exec (.Assign [.Name y py] (.ListComp elt [⟨.Name x px, iter, ifs, 0⟩] scope pos) spos) fx.env) σ X := fun ρ s A R r => by
  rw [exec_Assign_Name_used _ _ _ _ hsw]
  refine wpAny_bind (wpAny_standAt (wpAny_bind ?_))
  show wpAny _ A (do let _ ← comprehension (.ListComp elt [⟨.Name x px, iter, ifs, 0⟩] scope pos) scope fx.env _ (newList []) false (eval iter fx.env) (some (PySem.assign (.Name y py) fx.env))) _ _ s
  refine wpAny_bind ?_
  refine compV (F := fun v σ' => OU1 c d fx (fun u => PySem.assign (.Name y py) fx.env u) v σ' (fun _ σ₂ => X .next σ₂)) R r (Nat.zero_le _) hcl hkind hnames hcell (h.mono fun v σ₁ ⟨n, item, Cn, I, a1, a2, a3, a4⟩ => ⟨n, item, Cn, I, a1.name, a2, a3.toT hx, a4⟩) hs fun ρ' s' σ' v z C p e r' hv hF hN h1 h2 h3 h4 => ?_
  obtain ⟨m, hm⟩ := hN
  refine wpAny_mono (hF ρ' s' A z R r' hv) ?_ fun _ _ q => q
  rintro _ s₂ ⟨ρ₂, σ₂, p₂, e₂, r₂, q⟩
  have hC2 : C ∉ ρ₂ := fun m' => by
    rcases e₂.new C m' with q | q
    · exact h1 q
    · obtain ⟨o, _, _, e', _⟩ := hm; rw [e'] at q; cases q
  have hm₂ : s₂.heap.Ns C m := by
    obtain ⟨o, es, ep, e', hd⟩ := hm
    exact ⟨o, es, ep, e₂.keep C o (fun q => by rcases List.mem_cons.mp q with q | q; exact h2 q; exact h1 q) e', hd⟩
  refine ⟨m, hm₂, fun h' hs' => wpAny_pure (wpAny_pure ?_)⟩
  exact ⟨ρ₂, .next, σ₂, (e.trans e₂ r'.1.hasL).sideNs h4 hs', r₂.sideNs hm₂ hC2 h2 h3 hs', .next, q⟩
end
end Mine
namespace Mine
open PySem PySem.W PyProof.Rows PySem.SeqAt
section
variable {c : Cx} {d k : Nat} {fx : Fx} {ρ ρ' ρ'' : List Addr} {σ σ' : St} {h h' h'' : Heap} {s s' s₁ : Shared} {A : Around} {Q : V → St → Prop} {X : Fl → St → Prop}
  {loc loc' : List (Str × V)} {hp hp' : List O}
theorem rng_post {a b st : Int} {t u v : Tok} {tk : Tok} (r : RelS c fx ρ σ s) (q : Q (.ref σ.hp.length) ⟨σ.loc, σ.hp ++ [.rng a b st]⟩) : Post c fx ρ s Q (.ref s.heap.objs.size) { s with heap := s.heap.push (rngObj a b st t u v), toks := tk } := by
  obtain ⟨loc, hp⟩ := σ
  exact ⟨ρ ++ [s.heap.objs.size], _, _, pre_snoc _ _, .alloc _, ⟨r.1.alloc (o := .rng a b st) rfl ⟨_, _, _, rfl⟩, r.2⟩, .ref (by rw [← r.1.len]; simp), q⟩
theorem OVs.range1 {b : Int} (q : Q (.ref σ.hp.length) ⟨σ.loc, σ.hp ++ [.rng 0 b 1]⟩) : OVs c d fx (fun xs => PySem.call (.type "range") xs) [.int b] σ Q := fun ρ s A xs _ r va => by
  cases va using VRs.consC with
  | cons v1 v2 => cases v2 using VRs.nilC; cases v1 using VR.intC; exact call_range_1 (rng_post r q)
theorem It.range (hn : c.hd = .none) {it : Addr} {a st : Int} {n : Nat} : It c ρ it n (fun i => .int (a + i * st)) (fun _ => True) (fun i h => IsRangeIter h it (a + i * st) ((n : Int) - i) st) where
  next := fun fx i ρ' σ s A R E hi hh hC hp r hJ q => by
    refine wpAny_pyNext_range_item hJ (by omega) fun h' hit hs => ?_
    refine q _ h' _ (.int _ _) ?_ (.of_sameBut hs)
    have e1 : a + (i : Int) * st + st = a + ((i + 1 : Nat) : Int) * st := by rw [Int.natCast_succ, Int.add_mul]; omega
    have e2 : (n : Int) - i - 1 = (n : Int) - ((i + 1 : Nat) : Int) := by omega
    rw [e1, e2] at hit; exact hit
  done := fun fx ρ' σ s A R E hh hC hp r hJ q => wpAny_pyNext_range_end (by rw [hh, hn]; rfl) hJ (by omega) fun h' hx => q h' s.toks (.of_extBut hx)
  self := fun i s A R E hJ h => by
    refine wpAny_pyIter_slot ⟨_, hJ, rfl⟩ F.slot_range_iterator_iter (wpAny_call_entry F.slot_range_iterator_iter ⟨_, hJ, rfl⟩ F.entry_range_iterator_iter ?_ (F.args_range_iterator_iter_1 _))
    show wpAny _ _ (ret (.ref it)) _ _ s
    exact wpAny_pure ⟨_, rfl, "range_iterator", _, ⟨_, hJ, rfl⟩, F.slot_range_iterator_next.lookup, h⟩
  keep := fun i h h' hJ k _ => k _ hJ
  at_ := fun i h e => ⟨_, e, notFix_of rfl (by decide)⟩
theorem Src.range (hz : c.hd = .none) {i : Nat} {a b st : Int} {n : Nat} (ho : σ.hp[i]? = some (.rng a b st)) (hn : Builtin.Range.rangeSize a b st = n) (hs : Builtin.Range.small a b st = true) : Src c fx (.ref i) σ n (fun i => .int (a + i * st)) (fun _ => True) := fun ρ s A x R E hh r vx q => by
  cases vx using VR.refC with
  | ref ha =>
    rename_i ad
    obtain ⟨x, h1, t, u, v, rfl⟩ := r.1.obj i ad _ ha ho
    refine wpAny_pyIter_range h1 hs ?_
    refine q _ _ _ s.toks (fun _ _ e => Heap.get?_push_of_some _ e) (by rw [Heap.size_push]; exact Nat.le_succ _) (get_none_of_lt (Nat.le_refl _)) (r.1.size₀ (Nat.le_refl _)) (It.range hz (n := n) (a := a) (st := st)) ?_
    show IsRangeIter _ _ (a + (0 : Nat) * st) ((n : Int) - (0 : Nat)) st
    rw [hn]
    have e1 : a + ((0 : Nat) : Int) * st = a := by simp
    have e2 : (n : Int) - ((0 : Nat) : Int) = n := by simp
    rw [e1, e2]
    exact Heap.get?_push_size _ rfl
theorem small_of {a b : Int} (ha : -1000000 ≤ a ∧ a ≤ 1000000) (hb : -1000000 ≤ b ∧ b ≤ 1000000) : Builtin.Range.small a b 1 = true := by
  unfold Builtin.Range.small
  rw [rangeSize_one]
  simp only [Builtin.Range.rangeFitsLong, show (1 : Int) > 0 by decide, if_true]
  split <;> simp <;> omega
theorem Src.upto (hz : c.hd = .none) {i n : Nat} (ho : σ.hp[i]? = some (.rng 0 n 1)) (hn : n ≤ 1000000) : Src c fx (.ref i) σ n (fun i => .int i) (fun _ => True) := by
  have := Src.range (c := c) hz (fx := fx) ho (n := n) (by rw [rangeSize_one]; split <;> omega) (small_of (by omega) (by omega))
  simpa using this
end
end Mine
namespace Mine
open PySem PySem.W PyProof.Rows PySem.SeqAt
section
variable {c : Cx} {d k : Nat} {fx : Fx} {ρ ρ' ρ'' : List Addr} {σ σ' : St} {h h' h'' : Heap} {s s' s₁ : Shared} {A : Around} {Q : V → St → Prop} {X : Fl → St → Prop}
  {loc loc' : List (Str × V)} {hp hp' : List O}
theorem OV2.ne_nil {i j : Nat} {vs : List V} (h1 : σ.hp[i]? = some (.list vs)) (h2 : σ.hp[j]? = some (.list [])) (q : Q (.bool (!vs.isEmpty)) σ) : OV2 c d fx (compareOp .NotEq) (.ref i) (.ref j) σ Q := fun ρ s A x y R r vx vy => by
  cases vx using VR.refC with
  | ref ha => cases vy using VR.refC with
    | ref hb =>
      rename_i a b
      obtain ⟨x, g1, xs, n, rfl, g2⟩ := r.1.obj i a _ ha h1
      obtain ⟨y, g3, ys, m, rfl, g4⟩ := r.1.obj j b _ hb h2
      cases g4
      cases vs with
      | nil =>
        cases g2
        have := RcNeAt.lists (A := A) (s := s) (items := #[]) (items2 := #[]) (e := fun _ => true) ⟨_, g1, rfl, n, rfl⟩ ⟨_, g3, rfl, m, rfl⟩ rfl R.c (fun j h1 _ => by simp at h1)
        exact this _ _ _ _ (Post.same r rfl rfl rfl (.bool _) q)
      | cons v vs =>
        cases g2
        have := RcNeAt.lists_lengths (A := A) (s := s) ⟨_, g1, rfl, n, rfl⟩ ⟨_, g3, rfl, m, rfl⟩ (by simp) R.c
        exact this _ _ _ _ (Post.same r rfl rfl rfl (.bool _) q)
end
end Mine
namespace Mine
open PySem PySem.W PyProof.Rows PySem.SeqAt
section
variable {c : Cx} {d k : Nat} {fx : Fx} {ρ ρ' ρ'' : List Addr} {σ σ' : St} {h h' h'' : Heap} {s s' s₁ : Shared} {A : Around} {Q : V → St → Prop} {X : Fl → St → Prop}
  {loc loc' : List (Str × V)} {hp hp' : List O}
end
end Mine
namespace Mine
open PySem PySem.W PyProof.Rows
section
variable {c : Cx} {d k : Nat} {fx : Fx} {ρ ρ' ρ'' : List Addr} {σ σ' : St} {h h' h'' : Heap} {s s' s₁ : Shared} {A : Around} {Q : V → St → Prop} {X : Fl → St → Prop}
  {loc loc' : List (Str × V)} {hp hp' : List O}
end
end Mine
namespace Mine
open PySem PySem.W PyProof.Rows
section
variable {c : Cx} {d k : Nat} {fx : Fx} {ρ ρ' ρ'' : List Addr} {σ σ' : St} {h h' h'' : Heap} {s s' s₁ : Shared} {A : Around} {Q : V → St → Prop} {X : Fl → St → Prop}
  {loc loc' : List (Str × V)} {hp hp' : List O}
theorem forItT {target : Expr} {body : List Stmt} {it : Addr} {n : Nat} {item : Nat → V} {C : St → Prop} {J : Nat → Heap → Prop} {s₀ : Shared} {E : Value → Shared → Prop} (R : Room c d A) (T : It c ρ it n item C J) (r : RelS c fx ρ σ s)
    (e₀ : Ext fx ρ s₀.heap ρ s.heap) (hnew : s₀.heap.get? it = none) (hit : it ∉ ρ) (hit0 : c.H₀.get? it = none) (hitL : it ≠ fx.env.locals) (hJ : J 0 s.heap)
    (I : Nat → St → Prop) (h0 : I 0 σ) (hC : ∀ i σ, I i σ → C σ)
    (turn : ∀ i σ, i < n → I i σ → OU1 c d { fx with ρ₀ := ρ } (fun y => PySem.assign target fx.env y) (item i) σ (fun _ σ₁ => XV c d { fx with ρ₀ := ρ } (execs body fx.env) σ₁ (forX I i X)))
    (fin : ∀ σ, I n σ → X .next σ) (ht : ∀ i s x (R : Unit → Shared → Prop) (E : Value → Shared → Prop), J i s.heap → R () s → wpAny c.M A (letOwnedTupleGo target (.ref it) x) R E s) :
    codeAny c.M A (.forLoop target (.ref it) body [] fx.env) (fun r s' => match r with | .ok f => PostX c fx ρ s₀ X f s' | .error e => cameBackBy c.M A fx.env E e s') s := by
  have hcl := r.1.cells
  have hpre := r.1.pre
  refine codeAny_forLoop_any (fun m s' => ∃ i ρ' σ', n - i = m ∧ i ≤ n ∧ Ext fx ρ s₀.heap ρ' s'.heap ∧ it ∉ ρ' ∧ RelS c { fx with ρ₀ := ρ } ρ' σ' s' ∧ J i s'.heap ∧ I i σ') ?_ n ⟨0, ρ, σ, rfl, Nat.zero_le _, e₀, hit, ⟨r.1.floor r.1.pre (List.prefix_refl _), r.2⟩, hJ, h0⟩
  rintro m s₁ ⟨i, ρ₁, σ₁, hm, hin, e₁, hit1, r₁, j₁, hI⟩
  obtain ⟨oi, hoi, hnf⟩ := T.at_ _ _ j₁
  have side : ∀ h', Keep [it] s₁.heap h' → Rel c { fx with ρ₀ := ρ } ρ₁ σ₁ h' := fun h' k => r₁.1.side k (fun b m => by rw [List.mem_singleton] at m; subst m; exact hit0) (fun b m => by rw [List.mem_singleton] at m; subst m; exact hit1)
    (fun m => by rw [List.mem_singleton] at m; exact hitL m.symm) (fun b m o e => by rw [List.mem_singleton] at m; subst m; rw [hoi] at e; cases e; exact hnf)
  have ext : ∀ h', Keep [it] s₁.heap h' → Ext fx ρ s₀.heap ρ₁ h' := fun h' k =>
    ⟨e₁.new, fun b o nb e => k b o (fun m => by rw [List.mem_singleton] at m; subst m; rw [hnew] at e; cases e) (e₁.keep b o nb e)⟩
  rcases Nat.lt_or_eq_of_le hin with hlt | rfl
  · refine T.next { fx with ρ₀ := ρ } i ρ₁ σ₁ s₁ A _ _ hlt R.handled (hC _ _ hI) r₁.1.pre r₁ j₁ fun x h' tk hx j' k' => ?_
    have r₂ : RelS c { fx with ρ₀ := ρ } ρ₁ σ₁ { s₁ with heap := h', toks := tk } := ⟨side h' k', r₁.2⟩
    refine ht (i + 1) { s₁ with heap := h', toks := tk } x _ _ j' ?_
    refine wpAny_mono (turn i σ₁ hlt hI ρ₁ { s₁ with heap := h', toks := tk } A x R r₂ hx) ?_ fun _ _ z => z.elim
    rintro _ s₂ ⟨ρ₂, σ₂, p₂, e₂, r₂', h₂⟩
    have hit2 : it ∉ ρ₂ := fun q => by
      rcases e₂.new it q with q | q
      · exact hit1 q
      · obtain ⟨o, ho, _⟩ := T.at_ _ _ j'; rw [show h'.get? it = none from q] at ho; cases ho
    have k2 : ∀ o, h'.get? it = some o → s₂.heap.get? it = some o := fun o e => e₂.keep it o (fun m => by
      rcases List.mem_cons.mp m with q | q
      · exact hitL q
      · exact hit1 q) e
    have j₂ : J (i + 1) s₂.heap := T.keep _ _ _ j' k2 (r₂.1.immKeep e₂.keep)
    refine wpAny_mono (h₂ ρ₂ s₂ A R r₂') ?_ fun _ _ z => z.elim
    rintro f s₃ ⟨ρ₃, fl, σ₃, e₃, r₃, hf, h₃⟩
    have hit3 : it ∉ ρ₃ := fun q => by
      rcases e₃.new it q with q | q
      · exact hit2 q
      · obtain ⟨o, ho, _⟩ := T.at_ _ _ j₂; rw [q] at ho; cases ho
    have k3 : ∀ o, s₂.heap.get? it = some o → s₃.heap.get? it = some o := fun o e => e₃.keep it o (fun m => by
      rcases List.mem_cons.mp m with q | q
      · exact hitL q
      · exact hit2 q) e
    have j₃ : J (i + 1) s₃.heap := T.keep _ _ _ j₂ k3 (r₂'.1.immKeep e₃.keep)
    have e₂' : Ext fx ρ₁ h' ρ₂ s₂.heap := ⟨e₂.new, e₂.keep⟩
    have e₃' : Ext fx ρ₂ s₂.heap ρ₃ s₃.heap := ⟨e₃.new, e₃.keep⟩
    have hL2 : ∃ o, h'.get? fx.env.locals = some o := r₂.1.hasL
    have hL3 : ∃ o, s₂.heap.get? fx.env.locals = some o := r₂'.1.hasL
    have ee : Ext fx ρ s₀.heap ρ₃ s₃.heap := ((ext h' k').trans e₂' hL2).trans e₃' hL3
    have r₃' : RelS c fx ρ₃ σ₃ s₃ := ⟨r₃.1.unfloor hpre hcl, r₃.2⟩
    cases hf with
    | next => exact ⟨n - (i + 1), by omega, i + 1, ρ₃, σ₃, rfl, hlt, ee, hit3, r₃, j₃, h₃⟩
    | cont => exact ⟨n - (i + 1), by omega, i + 1, ρ₃, σ₃, rfl, hlt, ee, hit3, r₃, j₃, h₃⟩
    | brk => exact ⟨ρ₃, .next, σ₃, ee, r₃', .next, h₃⟩
    | ret hv => exact ⟨ρ₃, _, σ₃, ee, r₃', .ret hv, h₃⟩
  · refine T.done { fx with ρ₀ := ρ } ρ₁ σ₁ s₁ A _ _ R.handled (hC _ _ hI) r₁.1.pre r₁ j₁ fun h' tk k' => ?_
    exact wpAny_execs_nil ⟨ρ₁, .next, σ₁, ext h' k', ⟨(side h' k').unfloor hpre hcl, r₁.2⟩, .next, fin _ hI⟩
theorem ownedGo_list {elts : List Expr} {x1 : Nat} {pos : Pos} {I l : Addr} {i : Nat} {x : Value} {R : Unit → Shared → Prop} {E : Value → Shared → Prop} (hit : s.heap.IsListIter I l i) (hQ : R () s) :
    wpAny c.M A (letOwnedTupleGo (.Tuple elts x1 pos) (.ref I) x) R E s := by
  cases x with
  | ref a => exact wpAny_letOwnedTupleGo_listiter hit hQ
  | _ => exact wpAny_pure hQ
theorem XV.forTup {elts : List Expr} {x1 : Nat} {tpos : Pos} {iter : Expr} {body : List Stmt} {pos : Pos} (h : EV c d fx (eval iter fx.env) σ (fun v σ₁ => ∃ l vs, v = .ref l ∧ σ₁.hp[l]? = some (.list vs) ∧ ∃ I : Nat → St → Prop, I 0 σ₁ ∧ (∀ i σ, I i σ → σ.hp[l]? = some (.list vs)) ∧
      (∀ ρ₀, ρ₀.length = σ₁.hp.length → ∀ i σ, i < vs.length → I i σ → OU1 c d { fx with ρ₀ := ρ₀ } (fun y => PySem.assign (.Tuple elts x1 tpos) fx.env y) (vs.getD i .none) σ (fun _ σ₁ => XV c d { fx with ρ₀ := ρ₀ } (execs body fx.env) σ₁ (forX I i X))) ∧
      (∀ σ, I vs.length σ → X .next σ)))
    (hs : ∀ x, foldedSetIterable iter fx.env x = pure x := by intro _; rfl) : XV c d fx (exec (.For (.Tuple elts x1 tpos) iter body [] pos) fx.env) σ X := fun ρ s A R r => by
  refine wpAny_For (wpAny_mono (h ρ s A R r) ?_ fun _ _ e => e) hs
  rintro x s₁ ⟨ρ₁, v, σ₁, p₁, e₁, r₁, v₁, l, vs, rfl, hl, I, i0, iC, turn, fin⟩
  cases v₁ using VR.refC with
  | ref ha =>
    rename_i a
    obtain ⟨o, ho, xs, n, rfl, hxs⟩ := r₁.1.obj l a _ ha hl
    have hL : s₁.heap.IsList a xs.toArray := ⟨_, ho, rfl, n, rfl⟩
    refine wpAny_pyIter_list hL ?_
    have hk : ∀ b o, s₁.heap.get? b = some o → (s₁.heap.push { cls := .type "list_iterator", data := .fields #[.ref a, .int 0 0] }).get? b = some o := fun _ _ e => Heap.get?_push_of_some _ e
    have hnew : s₁.heap.get? s₁.heap.objs.size = none := get_none_of_lt (Nat.le_refl _)
    have r₂ : RelS c fx ρ₁ σ₁ { s₁ with heap := s₁.heap.push { cls := .type "list_iterator", data := .fields #[.ref a, .int 0 0] } } := ⟨r₁.1.ext hk, r₁.2⟩
    refine codeAny_mono (forItT (E := noE) (s₀ := s₁) R (It.list ha) r₂ (.ext hk) hnew (fun m => ?_) (r₁.1.size₀ (Nat.le_refl _)) (fun e => ?_) ⟨_, Heap.get?_push_size _ rfl, rfl, rfl⟩ I i0 iC (turn ρ₁ r₁.1.len) fin (fun i s x R E j q => ownedGo_list j q)) ?_
    · obtain ⟨_, _, x, _, _, hx, _⟩ := r₁.1.toHRel.mem m
      rw [hnew] at hx; cases hx
    · obtain ⟨o, ho⟩ := r₁.1.hasL
      rw [← e, hnew] at ho; cases ho
    · rintro (e | f) s' z
      · exact z
      · exact z.trans e₁ r₁
end
end Mine
namespace Mine
open PySem PySem.W PyProof.Rows
section
variable {c : Cx} {d k : Nat} {fx : Fx} {ρ ρ' ρ'' : List Addr} {σ σ' : St} {h h' h'' : Heap} {s s' s₁ : Shared} {A : Around} {Q : V → St → Prop} {X : Fl → St → Prop}
  {loc loc' : List (Str × V)} {hp hp' : List O}
theorem EV.unary {x : Expr} {op pos} (h : EV c d fx (eval x fx.env) σ (fun v σ₁ => OV1 c d fx (unaryOp op) v σ₁ Q)) : EV c d fx (eval (.UnaryOp op x pos) fx.env) σ Q := fun ρ s A R r =>
  UnaryOp_ (bindEE R r h)
theorem OV1.neg_int {a : Int} (q : Q (.int (-a)) σ) : OV1 c d fx (unaryOp .USub) (.int a) σ Q := fun ρ s A x R r vx => by
  cases vx using VR.intC
  exact P.neg_int (Post.same r rfl rfl rfl (.int _ _) q)
end
end Mine
namespace Mine
open PySem PySem.W PyProof.Rows
section
variable {c : Cx} {d k : Nat} {fx : Fx} {ρ ρ' ρ'' : List Addr} {σ σ' : St} {h h' h'' : Heap} {s s' s₁ : Shared} {A : Around} {Q : V → St → Prop} {X : Fl → St → Prop}
  {loc loc' : List (Str × V)} {hp hp' : List O}
end
end Mine
namespace Mine
open PySem PySem.W PyProof.Rows Builtin Builtin.Str
section
variable {c : Cx} {d k : Nat} {fx : Fx} {ρ ρ' ρ'' : List Addr} {σ σ' : St} {h h' h'' : Heap} {s s' s₁ : Shared} {A : Around} {Q : V → St → Prop} {X : Fl → St → Prop}
  {loc loc' : List (Str × V)} {hp hp' : List O}
end
end Mine
namespace Mine
open PySem PySem.W PyProof.Rows
section
variable {ρ : List Addr} {h : Heap} {K : Type} [DecidableEq K]
end
section
variable {c : Cx} {d k : Nat} {fx : Fx} {ρ ρ' ρ'' : List Addr} {σ σ' : St} {h h' h'' : Heap} {s s' s₁ : Shared} {A : Around} {Q : V → St → Prop} {X : Fl → St → Prop}
  {loc loc' : List (Str × V)} {hp hp' : List O} {K : Type} [DecidableEq K] {knd : KeyKind c.prog c.w K} {mk : Nat → List (K × V) → O} {kv : K → V}
end
end Mine
namespace Mine
open PySem PySem.W PyProof.Rows
section
variable {c : Cx} {d k : Nat} {fx : Fx} {ρ ρ' ρ'' : List Addr} {σ σ' : St} {h h' h'' : Heap} {s s' s₁ : Shared} {A : Around} {Q : V → St → Prop} {X : Fl → St → Prop}
  {loc loc' : List (Str × V)} {hp hp' : List O}
end
end Mine
namespace Mine
open PySem PySem.W PyProof.Rows PySem.SeqAt
section
variable {c : Cx} {d k : Nat} {fx : Fx} {ρ ρ' ρ'' : List Addr} {σ σ' : St} {h h' h'' : Heap} {s s' s₁ : Shared} {A : Around} {Q : V → St → Prop} {X : Fl → St → Prop}
  {loc loc' : List (Str × V)} {hp hp' : List O}
theorem draw_list {E : Value → Shared → Prop} {it t : Addr} {items : Array Value} (hne : t ≠ it) : ∀ (n i : Nat) (s : Shared) (R : List Value → Shared → Prop), s.heap.IsListIter it t i → s.heap.IsList t items → i + n ≤ items.size →
    (∀ h', h'.IsListIter it t (i + n) → Heap.SameBut it s.heap h' → R ((items.toList.drop i).take n) { s with heap := h' }) → wpAny c.M A (draw (.ref it) n) R E s
  | 0, i, s, R, hit, _, _, hQ => by
    show wpAny _ _ (pure []) R E s
    exact wpAny_pure (by simpa using hQ s.heap hit (Heap.SameBut.refl ..))
  | n + 1, i, s, R, hit, ht, hle, hQ => by
    have hlt : i < items.size := by omega
    show wpAny _ _ (pyNext (.ref it) >>= _) R E s
    refine wpAny_bind (wpAny_pyNext_list_item hit ht (x := items[i]) (by simp [hlt]) fun h₁ hit₁ hs₁ => ?_)
    refine wpAny_bind (wpAny_holding (draw_list hne n (i + 1) _ _ hit₁ (ht.extBut hs₁.extBut hne) (by omega) fun h₂ hit₂ hs₂ => wpAny_pure ?_))
    have hd : items.toList.drop i = items[i] :: items.toList.drop (i + 1) := by simp [List.drop_eq_getElem_cons, hlt]
    have := hQ h₂ (by rw [show i + (n + 1) = i + 1 + n by omega]; exact hit₂) (hs₁.trans hs₂)
    rw [hd, List.take_succ_cons] at this
    exact this
theorem unpackItems_list {E : Value → Shared → Prop} {t : Addr} {items : Array Value} {R : List Value → Shared → Prop} (hh : A.handled = c.hd.map Value.ref) (hz : ∀ a, c.hd = some a → ∃ o, s.heap.get? a = some o ∧ CtxNone o) (ht : s.heap.IsList t items)
    (hQ : ∀ h', (∀ b o, s.heap.get? b = some o → h'.get? b = some o) → R items.toList { s with heap := h' }) : wpAny c.M A (unpackItems (.ref t) items.size none) R E s := by
  have hlt : t ≠ s.heap.objs.size := by obtain ⟨o, ho, _⟩ := ht; exact Nat.ne_of_lt (Heap.lt_size ho)
  unfold unpackItems
  refine wpAny_bind ?_
  unfold notIterableAtAll
  refine wpAny_bind (wpAny_specialOf ht.typeIs slot_list_iter.lookup ?_)
  refine wpAny_pure ?_
  simp only [Bool.false_eq_true, if_false]
  refine wpAny_bind (wpAny_holding (wpAny_pyIter_list ht ?_))
  refine wpAny_bind (wpAny_holding (draw_list hlt items.size 0 _ _ ⟨_, Heap.get?_push_size _ rfl, rfl, rfl⟩ (ht.extBut (b := s.heap.objs.size) (fun b o _ e => Heap.get?_push_of_some _ e) hlt) (by omega) fun h₁ hit₁ hs₁ => ?_))
  have hall : List.take items.size (List.drop 0 items.toList) = items.toList := by
    rw [List.drop_zero]; exact List.take_of_length_le (by simp)
  rw [hall]
  rw [if_neg (by simp)]
  have ht₁ : h₁.IsList t items := (ht.extBut (b := s.heap.objs.size) (fun b o _ e => Heap.get?_push_of_some _ e) hlt).extBut hs₁.extBut hlt
  have kk : ∀ b o, s.heap.get? b = some o → h₁.get? b = some o := fun b o e => hs₁.extBut b o (Nat.ne_of_lt (Heap.lt_size e)) (Heap.get?_push_of_some _ e)
  refine wpAny_bind (wpAny_holding (list_end (s := { s with heap := h₁ }) hh (fun a e => let ⟨o, h1, h2⟩ := hz a e; ⟨o, kk _ _ h1, h2⟩) hit₁ ht₁ (by simp) fun h₂ he₂ => ?_))
  simp only [Option.isSome_none, Bool.false_eq_true, if_false]
  exact wpAny_pure (hQ h₂ fun b o e => he₂ b o (fun m => Nat.ne_of_lt (Heap.lt_size e) (List.mem_singleton.mp m)) (kk b o e))
theorem OU1.tupleL {elts : List Expr} {x1 : Nat} {pos : Pos} {l : Nat} {vs : List V} {Q : St → Prop} (ho : σ.hp[l]? = some (.list vs)) (hl : elts.length = vs.length) (q : UN c d fx elts vs σ Q) (hpl : plainArgs elts = true := by rfl) :
    OU1 c d fx (fun y => assign (.Tuple elts x1 pos) fx.env y) (.ref l) σ (fun _ σ' => Q σ') := fun ρ s A y R r hv => by
  cases hv using VR.refC with
  | ref ha =>
    rename_i a
    obtain ⟨a', xs, n, h1, h2, hx, h4⟩ := r.1.toHRel.list ho
    have eab : a = a' := Option.some.inj (ha.symm.trans h1)
    subst eab
    have hae := assignEach_plain (env := fx.env) hpl
    show wpAny c.M A (assign (.Tuple elts x1 pos) fx.env (.ref a)) _ _ s
    rw [arm_assign_Tuple]
    refine wpAny_bind (wpAny_standAt ?_)
    unfold unpack
    have hstar : (assignEach elts fx.env).findIdx? (·.1) = none := by
      rw [hae]
      clear q hl hae
      induction elts with
      | nil => rfl
      | cons e r ih =>
        have : plainArgs r = true := by cases e <;> first | exact hpl | cases hpl
        rw [List.map_cons, List.findIdx?_cons, ih this]; rfl
    have hn : (assignEach elts fx.env).length = xs.toArray.size := by rw [hae]; simp [hl, hx.length]
    rw [hn, hstar]
    refine wpAny_bind (wpAny_holding (unpackItems_list R.handled (fun a e => (r.1.held a e).2) h4 fun h' hk => ?_))
    have r' : RelS c fx ρ σ { s with heap := h' } := ⟨r.1.ext hk, r.2⟩
    have he' : ((assignEach elts fx.env).map (·.2)) = elts.map fun e => assign e fx.env := by rw [hae, List.map_map]; rfl
    rw [he']
    exact UN.run R r' (hx.mono (List.prefix_refl _) fun _ _ _ e => hk _ _ e) q fun ρ' σ' s' p e r'' q => ⟨ρ', σ', p, (Ext.ext hk).trans e r'.1.hasL, r'', q⟩
end
end Mine
namespace Mine
open PySem PySem.W PySem.Calls PyProof.Rows PySem.SeqAt
section
variable {prog : Program} {w : World} {A : Around} {E : Value → Shared → Prop} {s : Shared}
section
variable {R : Result → Shared → Prop} {N l1 l2 : Nat} {xs ys : Array Value} {h₁ : Heap}
end
end
end Mine
namespace Mine
open PySem PySem.W PySem.Calls PyProof.Rows PySem.SeqAt
section
variable {prog : Program} {w : World} {A : Around} {E : Value → Shared → Prop} {s : Shared} {l1 l2 : Nat} {xs ys : Array Value}
end
section
variable {c : Cx} {d : Nat} {fx : Fx} {ρ : List Addr} {σ : St} {h : Heap} {s : Shared} {A : Around} {Q : V → St → Prop}
end
end Mine
namespace Mine
open PySem PySem.W PySem.Calls PyProof.Rows PySem.SeqAt
section
variable {c : Cx} {d : Nat} {fx : Fx} {ρ : List Addr} {σ : St} {h : Heap} {s : Shared} {A : Around} {Q : V → St → Prop}
theorem SrcT.tupList {elts : List Expr} {x1 : Nat} {tpos : Pos} {l : Nat} {vs : List V} (hl : σ.hp[l]? = some (.list vs)) : SrcT c fx (.Tuple elts x1 tpos) (.ref l) σ vs.length (fun i => vs.getD i .none) (fun σ => σ.hp[l]? = some (.list vs)) := fun ρ s A x R E hh r vx q => by
  cases vx using VR.refC with
  | ref ha =>
    rename_i a
    obtain ⟨o, ho, xs, n, rfl, hxs⟩ := r.1.obj l a _ ha hl
    refine wpAny_pyIter_list ⟨_, ho, rfl, n, rfl⟩ ?_
    exact q _ _ _ _ (fun _ _ e => Heap.get?_push_of_some _ e) (by rw [Heap.size_push]; exact Nat.le_succ _) (get_none_of_lt (Nat.le_refl _)) (r.1.size₀ (Nat.le_refl _)) (It.list ha) (fun A' i s' z R' E' j hR => ownedGo_list j hR) ⟨_, Heap.get?_push_size _ rfl, rfl, rfl⟩
end
end Mine
namespace Mine
open PySem PySem.W PyProof.Rows PySem.SeqAt
section
variable {c : Cx} {d k : Nat} {fx : Fx} {ρ ρ' ρ'' : List Addr} {σ σ' : St} {h h' h'' : Heap} {s s' s₁ : Shared} {A : Around} {Q : V → St → Prop} {X : Fl → St → Prop}
  {loc loc' : List (Str × V)} {hp hp' : List O}
end
end Mine
namespace Mine
open PySem PySem.W PyProof.Rows
section
variable {c : Cx} {d k : Nat} {fx : Fx} {ρ ρ' ρ'' : List Addr} {σ σ' : St} {h h' h'' : Heap} {s s' s₁ : Shared} {A : Around} {Q : V → St → Prop} {X : Fl → St → Prop}
  {loc loc' : List (Str × V)} {hp hp' : List O}
noncomputable def EKs (c : Cx) (d : Nat) (fx : Fx) (pos : Pos) (kws : List Keyword) (σ : St) (Q : List V → St → Prop) : Prop :=
  ∀ ρ s A, Room c d A → RelS c fx ρ σ s → wpAny c.M A (evalAll ((backToKw pos (keywordEach kws fx.env)).map (·.2))) (Posts c fx ρ s Q) noE s
theorem EKs.nil {pos : Pos} {Q : List V → St → Prop} (q : Q [] σ) : EKs c d fx pos [] σ Q := fun ρ s A _ r => kwAll_nil ⟨ρ, [], σ, List.prefix_refl _, .refl _ _ _, r, .nil, q⟩
theorem EKs.cons {pos p : Pos} {name : Str} {value : Expr} {rest : List Keyword} {Q : List V → St → Prop} (h : EV c d fx (eval value fx.env) σ (fun v σ₁ => EKs c d fx pos rest σ₁ (fun vs σ₂ => Q (v :: vs) σ₂))) :
    EKs c d fx pos (⟨some name, value, p⟩ :: rest) σ Q := fun ρ s A R r => by
  refine kwAll_cons (wpAny_mono (h ρ s A R r) ?_ fun _ _ e => e)
  rintro x s₁ ⟨ρ₁, v, σ₁, p₁, e₁, r₁, v₁, h₁⟩
  refine wpAny_mono (h₁ ρ₁ s₁ A R r₁) ?_ fun _ _ e => e
  rintro xs s₂ ⟨ρ₂, vs, σ₂, p₂, e₂, r₂, v₂, h₂⟩
  exact ⟨ρ₂, v :: vs, σ₂, p₁.trans p₂, e₁.trans e₂ r₁.1.hasL, r₂, .cons (v₁.mono p₂ (r₁.1.immKeep e₂.keep)) v₂, h₂⟩
theorem evalArgs_Vk {M : Model} {E : Value → Shared → Prop} {env : Env} {f : Value} {keywords : List (Option Str × Sem Value)} {R : Args → Shared → Prop} (args : List Expr) (hall : keywords.all (·.1.isSome) = true)
    (h : wpAny M A (spliced (args.map fun e => (false, eval e env))) (fun vs s₁ => wpAny M A (evalAll (keywords.map (·.2))) (fun ks s₂ => R ⟨vs, (keywords.filterMap (·.1)).zip ks⟩ s₂) E s₁) E s) : wpAny M A (evalArgs f true (args.map fun e => (false, eval e env)) keywords) R E s := by
  cases args with
  | nil =>
    unfold evalArgs
    show wpAny M A (spliced [] >>= _) R E s
    refine wpAny_bind (wpAny_mono h (fun vs s' h' => ?_) fun _ _ x => x)
    refine wpAny_holding ?_
    rw [if_pos hall]
    exact wpAny_bind (wpAny_mono h' (fun ks s₂ h₂ => wpAny_bind (wpAny_pure (wpAny_pure h₂))) fun _ _ x => x)
  | cons e r => exact PySem.evalArgs_kw hall h
theorem callFVk {f : V} {x : Value} {vs kv : List V} {kn : List Str} {xs ys : List Value} (R : Room c d A) (hk : k ≤ d) (r : RelS c fx ρ σ s) (vf : VR ρ s.heap f x) (va : VRs ρ s.heap vs xs) (vk : VRs ρ s.heap kv ys)
    (h : FVk c k f vs kn kv σ.hp (fun v hp' => Q v ⟨σ.loc, hp'⟩)) : wpAny c.M A (call x xs (kn.zip ys)) (Post c fx ρ s Q) noE s := by
  obtain ⟨loc, hp⟩ := σ
  refine wpAny_call (codeAny_mono (h ρ s A x xs ys (R.le hk) r.1.ok ⟨r.1.toHRel, r.2⟩ vf va vk) ?_)
  rintro _ s' ⟨ρ', v, hp', y, rfl, e, r', hv, q⟩
  exact ⟨ρ', v, ⟨loc, hp'⟩, e.pre, e.ext, ⟨r.1.after e r'.1, r'.2⟩, hv, q⟩
theorem EV.callK {x : Str} {np pos : Pos} {args : List Expr} {kws : List Keyword} {kn : List Str} {a : Addr} (k : Nat) (e : nsIn c.K mainGlobals x = some (some (.ref a))) (hk : keepIn c.K (.ref a) = true)
    (h : EVs c d fx (spliced (backTo pos (starEach args fx.env))) σ (fun vs σ₁ => EKs c d fx pos kws σ₁ (fun kv σ₂ => FVk c k (.top a) vs kn kv σ₂.hp (fun v hp' => Q v ⟨σ₂.loc, hp'⟩))))
    (hall : (backToKw pos (keywordEach kws fx.env)).all (·.1.isSome) = true := by rfl) (hnone : (backToKw pos (keywordEach kws fx.env)).any (·.1.isNone) = false := by rfl) (hkn : (backToKw pos (keywordEach kws fx.env)).filterMap (·.1) = kn := by rfl)
    (hkd : k ≤ d := by decide) (hpl : plainArgs args = true := by rfl) (hx : fx.env.kindOf x = some .globalImplicit := by rfl) (hd : (x == ("__debug__" : Str)) = false := by decide) :
    EV c d fx (eval (.Call (.Name x np) args kws pos) fx.env) σ Q := fun ρ s A R r => by
  show wpAny c.M A (eval (.Name x np) fx.env >>= fun f => callWith pos f [] (backTo pos (starEach args fx.env)) (backToKw pos (keywordEach kws fx.env))) _ _ s
  refine wpAny_bind ?_
  refine Calls.Name_function_global r.1.kind hx (Calls.loadGlobal_global r.1.gNs (mg_of r.1.ok.k r.1.ok.t.g e) ?_) hd
  have hh := h ρ s A R r
  rw [star_plain hpl, backTo_plain] at hh ⊢
  refine callWith_of (P := fun h => c.K.In h) (by rw [any_plain, hnone]; rfl) (fun h X => keeps_K hk h X) (evalArgs_Vk args hall (wpAny_mono hh ?_ fun _ _ e => e))
  rintro xs s₁ ⟨ρ₁, vs, σ₁, p₁, e₁, r₁, v₁, h₁⟩
  refine wpAny_mono (h₁ ρ₁ s₁ A R r₁) ?_ fun _ _ e => e
  rintro ys s₂ ⟨ρ₂, kv, σ₂, p₂, e₂, r₂, v₂, h₂⟩
  refine ⟨r₂.1.ok.k.keeps r₂.1.keep, ?_⟩
  rw [hkn]
  exact wpAny_mono (callFVk R hkd r₂ (.top a) (v₁.mono p₂ (r₁.1.immKeep e₂.keep)) v₂ h₂) (fun _ _ z => (z.trans p₂ e₂ r₂).trans p₁ e₁ r₁) fun _ _ e => e
end
end Mine
namespace Mine
open PySem PySem.W PyProof.Rows PySem.SeqAt
section
variable {c : Cx} {d k : Nat} {fx : Fx} {ρ ρ' ρ'' : List Addr} {σ σ' : St} {h h' h'' : Heap} {s s' s₁ : Shared} {A : Around} {Q : V → St → Prop} {X : Fl → St → Prop}
  {loc loc' : List (Str × V)} {hp hp' : List O}
theorem XV.assignCompT {elt iter tgt : Expr} {y : Str} {py : Pos} {ifs : List Expr} {scope : Scope} {pos spos : Pos} {cl' : List (Str × Nat)}
    (hcl : cloV fx.cl scope.names [] = some cl')
    (h : EV c d fx (eval iter fx.env) σ (fun v σ₁ => ∃ n item Cn I, SrcT c fx tgt v σ₁ n item Cn ∧ I 0 [] (σ₁.hp ++ [.list []]) ∧ CompOkT 0 c d fx tgt ifs elt scope cl' n item Cn I σ₁.hp.length ∧ (∀ acc hp', I n acc hp' →
      OU1 c d fx (fun u => PySem.assign (.Name y py) fx.env u) (.ref σ₁.hp.length) ⟨σ₁.loc, hp'⟩ (fun _ σ₂ => X .next σ₂))))
    (hsw : swapsWith (.ListComp elt [⟨tgt, iter, ifs, 0⟩] scope pos) (some (.Name y py)) spos.line fx.env = pure true := by rfl)
    (hkind : scope.kind = .function := by rfl) (hnames : scope.names.all (fun y => y.2 != .local || scope.names.lookup y.1 == some .local) = true := by decide +kernel) (hcell : scope.names.any (fun y => y.2 == .cell) = false := by decide +kernel)
    (hs : ∀ x, foldedSetIterable iter fx.env x = pure x := by intro _; rfl) :
    XV c d fx (exec (.Assign [.Name y py] (.ListComp elt [⟨tgt, iter, ifs, 0⟩] scope pos) spos) fx.env) σ X := fun ρ s A R r => by
  rw [exec_Assign_Name_used _ _ _ _ hsw]
  refine wpAny_bind (wpAny_standAt (wpAny_bind ?_))
  show wpAny _ A (do let _ ← comprehension (.ListComp elt [⟨tgt, iter, ifs, 0⟩] scope pos) scope fx.env _ (newList []) false (eval iter fx.env) (some (PySem.assign (.Name y py) fx.env))) _ _ s
  refine wpAny_bind ?_
  refine compV (F := fun v σ' => OU1 c d fx (fun u => PySem.assign (.Name y py) fx.env u) v σ' (fun _ σ₂ => X .next σ₂)) R r (Nat.zero_le _) hcl hkind hnames hcell h hs fun ρ' s' σ' v z C p e r' hv hF hN h1 h2 h3 h4 => ?_
  obtain ⟨m, hm⟩ := hN
  refine wpAny_mono (hF ρ' s' A z R r' hv) ?_ fun _ _ q => q
  rintro _ s₂ ⟨ρ₂, σ₂, p₂, e₂, r₂, q⟩
  have hC2 : C ∉ ρ₂ := fun m' => by
    rcases e₂.new C m' with q | q
    · exact h1 q
    · obtain ⟨o, _, _, e', _⟩ := hm; rw [e'] at q; cases q
  have hm₂ : s₂.heap.Ns C m := by
    obtain ⟨o, es, ep, e', hd⟩ := hm
    exact ⟨o, es, ep, e₂.keep C o (fun q => by rcases List.mem_cons.mp q with q | q; exact h2 q; exact h1 q) e', hd⟩
  refine ⟨m, hm₂, fun h' hs' => wpAny_pure (wpAny_pure ?_)⟩
  exact ⟨ρ₂, .next, σ₂, (e.trans e₂ r'.1.hasL).sideNs h4 hs', r₂.sideNs hm₂ hC2 h2 h3 hs', .next, q⟩
theorem OV2.eqT_like {vs us : List V} {n : Nat} (hn : n < 50) (l : Likes σ.hp n vs us) (q : Q (.bool true) σ) : OV2 c d fx (compareOp .Eq) (.tup vs) (.tup us) σ Q := fun ρ s A x y R r vx vy => by
  cases vx using VR.tupC with
  | tup ha hx =>
    rename_i a xs m
    cases vy using VR.tupC with
    | tup hb hy =>
      rename_i b ys m'
      have hl : xs.toArray.size = ys.toArray.size := by simp [← hx.length, ← hy.length, l.length]
      have hu := R.units
      have := RcAt.tuples (A := A) (s := s) (items := xs.toArray) (items2 := ys.toArray) (e := fun _ => true) ⟨_, ha, rfl, m, rfl⟩ ⟨_, hb, rfl, m', rfl⟩ R.c
        (fun j h1 h2 => by
          have := Likes.eqAt r.1.toHRel l _ _ A.in1 (by simp only [Around.in1_units]; unfold cLine; omega) hx hy j (by simpa using h1) (by simpa using h2)
          simpa using this)
      rw [all_true, hl, beq_self_eq_true, Bool.and_self] at this
      exact this _ _ _ _ (Post.same r rfl rfl rfl (.bool _) q)
noncomputable def isI (i : Int) : Value → Bool
  | .int j _ => j == i
  | _ => false
theorem ints_at {ρ : List Addr} {h : Heap} {i : Int} : ∀ {ns : List Int} {xs : List Value}, VRs ρ h (ns.map V.int) xs → (∀ y ∈ xs, ∃ j t, y = .int j t) ∧ xs.any (isI i) = ns.any (· == i)
  | [], _, w => by cases w using VRs.nilC; exact ⟨(fun y hy => by cases hy), rfl⟩
  | n :: ns, _, w => by
    cases w using VRs.consC with
    | cons a b =>
      cases a using VR.intC
      obtain ⟨h1, h2⟩ := ints_at (i := i) b
      refine ⟨fun y hy => ?_, by rw [List.any_cons, List.any_cons, h2]; rfl⟩
      rcases List.mem_cons.mp hy with rfl | hy
      · exact ⟨_, _, rfl⟩
      · exact h1 y hy
theorem OV2.in_ints {ns : List Int} {i : Int} (q : Q (.bool (ns.any (· == i))) σ) : OV2 c d fx (compareOp .In) (.int i) (.tup (ns.map V.int)) σ Q := fun ρ s A x y R r vx vy => by
  cases vx using VR.intC with
  | int t =>
    cases vy using VR.tupC with
    | tup ha hx =>
      rename_i a xs m
      obtain ⟨h1, h2⟩ := ints_at (i := i) hx
      refine in_tupleAt (items := xs.toArray) (isI i) ⟨_, ha, rfl, m, rfl⟩ (fun y hy => ?_) ?_
      · obtain ⟨j, u, rfl⟩ := h1 y (by simpa using hy)
        exact EqAt.int_int _ _ _ _
      rw [show xs.toArray.any (isI i) = xs.any (isI i) by simp, h2]
      exact Post.same r rfl rfl rfl (.bool _) q
theorem OU1.attrE {o : Expr} {attr : Str} {pos : Pos} {v : V} {Q : St → Prop} (h : EV c d fx (eval o fx.env) σ (SetEI c attr v Q)) :
    OU1 c d fx (fun y => PySem.assign (.Attribute o attr pos) fx.env y) v σ (fun _ σ' => Q σ') := fun ρ s A y R r hv => by
  show wpAny c.M A (PySem.assign (.Attribute o attr pos) fx.env y) _ _ s
  rw [arm_assign_Attribute]
  refine wpAny_bind (wpAny_holding (wpAny_mono (h ρ s A R r) ?_ fun _ _ e => e))
  rintro x s₂ ⟨ρ₂, _, ⟨loc₂, hp₂⟩, p₂, e₂, r₂, v₂, i, C, j, a, b, kvs, rfl, h1, h2, h3, h4, h5, q⟩
  refine wpAny_bind (wpAny_standAt ?_)
  cases v₂ using VR.refC with
  | ref hx =>
    obtain ⟨x', dx, t0, vs, es, n, g1, g2, g3, g4, g5, I, g6, g7⟩ := r₂.1.toHRel.excD h1 h2
    have ex := Option.some.inj (hx.symm.trans g1)
    subst ex
    have X := r₂.1.ok.k.keeps r₂.1.keep
    have v₁' := hv.mono p₂ (r.1.immKeep e₂.keep)
    refine wpAny_bind (wpAny_holding (set_plain X I h3.sa (excSet1 (s := { s₂ with toks := s₂.toks + 1 }) h3 X g3 g4 h4 g5.noRef (by rw [← g5.length]; exact h5) fun t D => ?_)))
    have hs : Keep [dx] s₂.heap (s₂.heap.update dx (Obj.putName attr (PyData.keyHash c.w.params attr) (.str attr t) y)) := .of_sameBut (Heap.SameBut.update ..)
    have k : ImmKeep s₂.heap (s₂.heap.update dx (Obj.putName attr (PyData.keyHash c.w.params attr) (.str attr t) y)) := r₂.1.toHRel.immKeep (hs.sub fun b m => by rw [List.mem_singleton] at m; subst m; exact mem_of_get? g2)
    refine wpAny_release ?_
    exact ⟨_, _, p₂, e₂.trans (.upd g2 hs) r₂.1.hasL, ⟨r₂.1.upd (o := .ns (put attr v kvs)) g2 hs D ⟨_, _, rfl, NsR.put (v₁'.mono (List.prefix_refl _) k) (g5.mono (List.prefix_refl _) k)⟩ (.of h2), r₂.2⟩, q⟩
theorem FmtV.fmtPair {i j : Int} (hz : (PyData.tuple [.int i, .int j]).shown.length ≤ sizeLine) (q : Q (.str (PyData.tuple [.int i, .int j]).shown.cps.toList) σ) (hs : (PyData.tuple [.int i, .int j]).showable = true) : FmtV c d fx (.tup [.int i, .int j]) σ Q := fun ρ s A x R r v => by
  cases v using VR.tupC with
  | tup ha hx =>
    rename_i a xs n
    cases hx using VRs.consC with
    | cons v1 v2 => cases v2 using VRs.consC with
      | cons v2 v3 =>
        cases v3 using VRs.nilC
        cases v1 using VR.intC with
        | int t => cases v2 using VR.intC with
          | int u =>
            have rd : Reads s.heap (.ref a) (.tuple [.int i, .int j]) ([] ++ ([] ++ [])) := .tuple ha rfl rfl (.cons (.int _ _) (.cons (.int _ _) .nil))
            refine convS_of_reads rd hs (fun e => by simp [PyData.hasDict, PyData.hasDictAll] at e) R.gds (by have := R.units; show _ + 2 < _; unfold cLine; omega) (fun _ _ e => e) (fun h' u tk hk => ?_) hz
            refine SB.field_str (fun t'' k' => ?_) hz
            exact ⟨ρ, _, σ, List.prefix_refl _, .ext hk, ⟨r.1.ext hk, r.2⟩, .str _ rfl, q⟩
end
end Mine
namespace Mine
open PySem PySem.W PySem.Calls PyProof.Rows Builtin
section
variable {prog : Program} {w : World} {A : Around} {E : Value → Shared → Prop} {s : Shared} {K : Frag} {x C : Addr} {env : Env}
theorem ExcK.notSub (Z : ExcK K C) {b : Value} (hb : [Value.ref C, .type "Exception", .type "BaseException", .type "object"].contains b = false) : mroIn K C b = some false := by
  obtain ⟨cd, hc, hm, _⟩ := Z.cls
  unfold mroIn
  rw [hc, Option.bind_some, hm, hb]; rfl
theorem not_class {a : Addr} {o : Obj} {vs : Array Value} {Q : Bool → Shared → Prop} (ha : s.heap.get? a = some o) (hd : o.data = .fields vs) (q : Q false s) : wpAny (model prog w) A (isType (.ref a)) Q E s := by
  simp only [isType, loadHead]
  refine wpAny_bind (wpAny_loadPart ha ?_)
  rw [hd]; exact wpAny_pure q
inductive RaiseI (K : Frag) (E : Value → Shared → Prop) (v : Value) (s₁ : Shared) : Prop
  | mk (a C : Addr) (dd : Option Addr) (vs : Array Value) (h0 : v = .ref a) (h1 : s₁.heap.get? a = some (excObj C dd vs)) (h2 : vs[1]? = some .none) (Z : ExcK K C) (X : K.In s₁.heap) (ht : typeIn K (.ref C) = some (.type "type")) (q : E (.ref a) s₁) : RaiseI K E v s₁
theorem raise_err {e : Expr} {pos : Pos} {Q : Flow → Shared → Prop} (hh : A.handled = none) (h : wpAny (model prog w) A (eval e env) (RaiseI K E) E s) : wpAny (model prog w) A (exec (.Raise (some e) none pos) env) Q E s := by
  show wpAny _ A (do standAt pos; raiseStmt env (some (do let v ← eval e env; standAt pos; pure v)) none) Q E s
  refine wpAny_bind (wpAny_standAt ?_)
  unfold raiseStmt
  dsimp only
  refine wpAny_bind (wpAny_bind (wpAny_mono h (fun v s₁ h₁ => wpAny_bind (wpAny_standAt (wpAny_pure ?_))) fun _ _ x => x))
  obtain ⟨a, C, dd, vs, rfl, h1, h2, Z, X, ht, q⟩ := h₁
  have L0 : Looks (model prog w) s₁.heap (typeOf (.ref a)) (.ref C) := (Looks.ld h1).andThen .now
  have L1 : Looks (model prog w) s₁.heap (isInstance (.ref a) (.type "BaseException")) true := L0.andThen (looks_mroIn X (Z.sub (by simp)))
  refine wpAny_bind (wpAny_pure ?_)
  dsimp only
  refine wpAny_bind (wpAny_holding ?_)
  unfold excFromValue isExcClass
  refine wpAny_bind (wpAny_bind (not_class h1 rfl ?_))
  simp only [Bool.false_eq_true, if_false]
  refine wpAny_pure ?_
  simp only [Bool.false_eq_true, if_false]
  refine wpAny_bind (L1.here ?_)
  simp only [if_true]
  refine wpAny_pure ?_
  refine wpAny_bind (not_class h1 rfl ?_)
  simp only [Bool.false_eq_true, if_false]
  unfold raisedInstance
  refine wpAny_bind (wpAny_bind (L0.here (wpAny_bind ((looks_typeIn X ht).here ?_))))
  rw [if_pos (by decide)]
  refine wpAny_pure ?_
  unfold setFlight raiseNew
  refine wpAny_bind (wpAny_bind (wpAny_field h1 rfl h2 ?_))
  rw [if_neg (by decide)]
  refine wpAny_pure (wpAny_bind (wpAny_handled ?_))
  rw [hh]
  first
    | exact wpAny_throw q
    | exact wpAny_bind (wpAny_pure (wpAny_throw q))
theorem misses_tuple {a C ta : Addr} {dd : Option Addr} {vs : Array Value} {Ts : List String} {n : Nat} {Q : Bool → Shared → Prop} (Z : ExcK K C) (X : K.In s.heap) (h1 : s.heap.get? a = some (excObj C dd vs))
    (ht : s.heap.get? ta = some (tupObj (Ts.map Value.type).toArray n)) (hT : ∀ T ∈ Ts, isSubtype (.type T) (.type "BaseException") = pure true) (hN : ∀ T ∈ Ts, [Value.ref C, .type "Exception", .type "BaseException", .type "object"].contains (.type T) = false) (q : Q false s) :
    wpAny (model prog w) A (excMatches (.ref a) (.ref ta)) Q E s := by
  have L0 : Looks (model prog w) s.heap (typeOf (.ref a)) (.ref C) := (Looks.ld h1).andThen .now
  unfold excMatches
  refine wpAny_bind (wpAny_isInstance (T := "tuple") (b := true) ⟨_, ht, rfl⟩ (by rw [isSubtype_type]; kernel_rfl) ?_)
  rw [if_pos rfl]
  refine wpAny_bind (wpAny_seqItems ht rfl (wpAny_bind (wpAny_pure ?_)))
  show wpAny _ _ (forIn (Ts.map Value.type) _ _ >>= _) _ _ _
  refine wpAny_bind (wpAny_forIn_list _ (fun l _ s' => s' = s ∧ ∃ Us : List String, l = Us.map Value.type ∧ ∀ T ∈ Us, isSubtype (.type T) (.type "BaseException") = pure true) _ ?_ ?_ _ _ ⟨rfl, Ts, rfl, hT⟩)
  · rintro y rest b s' ⟨rfl, Us, e, hU⟩
    cases Us with
    | nil => cases e
    | cons T Us =>
      cases e
      unfold isExcClass
      refine wpAny_bind (wpAny_bind (wpAny_pure ?_))
      rw [if_pos rfl, hU T (.head _)]
      refine wpAny_pure ?_
      simp only [Bool.not_true, Bool.false_eq_true, if_false]
      exact wpAny_pure ⟨rfl, Us, rfl, fun T m => hU T (.tail _ m)⟩
  · rintro _ s' ⟨rfl, _⟩
    refine wpAny_bind (L0.here ?_)
    refine wpAny_bind (wpAny_forIn_list _ (fun l b s'' => s'' = s' ∧ b.1 = none ∧ ∃ Us : List String, l = Us.map Value.type ∧ ∀ T ∈ Us, [Value.ref C, .type "Exception", .type "BaseException", .type "object"].contains (.type T) = false) _ ?_ ?_ _ _ ⟨rfl, rfl, Ts, rfl, hN⟩)
    · rintro y rest b s'' ⟨rfl, hb, Us, e, hU⟩
      cases Us with
      | nil => cases e
      | cons T Us =>
        cases e
        refine wpAny_bind ((looks_mroIn X (Z.notSub (hU T (.head _)))).here ?_)
        simp only [Bool.false_eq_true, if_false]
        exact wpAny_pure ⟨rfl, rfl, Us, rfl, fun T m => hU T (.tail _ m)⟩
    · rintro b s'' ⟨rfl, hb, _⟩
      obtain ⟨b1, b2⟩ := b
      cases hb
      exact wpAny_pure q
theorem hits_own {a C : Addr} {dd : Option Addr} {vs : Array Value} {Q : Bool → Shared → Prop} (Z : ExcK K C) (X : K.In s.heap) (h1 : s.heap.get? a = some (excObj C dd vs)) (ht : typeIn K (.ref C) = some (.type "type")) (q : Q true s) :
    wpAny (model prog w) A (excMatches (.ref a) (.ref C)) Q E s := by
  have L0 : Looks (model prog w) s.heap (typeOf (.ref a)) (.ref C) := (Looks.ld h1).andThen .now
  have LT := looks_typeIn (M := model prog w) X ht
  obtain ⟨cd, hc, hm, _⟩ := Z.cls
  unfold excMatches
  have LI : Looks (model prog w) s.heap (isInstance (.ref C) (.type "tuple")) false := LT.andThen (Looks.of_pure (by rw [isSubtype_type]; kernel_rfl))
  refine wpAny_bind (LI.here ?_)
  rw [if_neg (by decide)]
  refine wpAny_bind (wpAny_pure ?_)
  show wpAny _ _ (forIn [Value.ref C] _ _ >>= _) _ _ _
  rw [List.forIn_cons]
  have LC : Looks (model prog w) s.heap (isType (.ref C)) true := by
    unfold clsIn at hc
    split at hc
    · rename_i oc od cd' sl ho
      exact (Looks.ld (part := some headPart) (X _ _ ho)).andThen .now
    · cases hc
  have LE : Looks (model prog w) s.heap (isExcClass (.ref C)) true := LC.andThen (by rw [if_pos rfl]; exact looks_mroIn X (Z.sub (by simp)))
  refine wpAny_bind (wpAny_bind (wpAny_bind (LE.here ?_)))
  simp only [Bool.not_true, Bool.false_eq_true, if_false]
  refine wpAny_pure ?_
  dsimp only
  rw [List.forIn_nil]
  refine wpAny_pure ?_
  refine wpAny_bind (L0.here ?_)
  show wpAny _ _ (forIn [Value.ref C] _ _ >>= _) _ _ _
  rw [List.forIn_cons]
  refine wpAny_bind (wpAny_bind (wpAny_bind ((looks_mroIn X (Z.sub (by simp))).here ?_)))
  rw [if_pos rfl]
  exact wpAny_pure (wpAny_pure (wpAny_pure q))
end
end Mine
namespace Mine
open PySem PySem.W PyProof.Rows
noncomputable def del (x : Str) (loc : List (Str × V)) : List (Str × V) := loc.filter fun p => !(p.1 == x)
theorem del_lookup {x y : Str} {v : V} : ∀ {l : List (Str × V)}, (del x l).lookup y = some v → y ≠ x ∧ l.lookup y = some v := fun {l} e => by
  obtain ⟨h1, h2⟩ := filter_lookup (p := fun z => !(z == x)) (l := l) e
  exact ⟨fun q => by rw [q] at h1; simp at h1, h2⟩
theorem lk_del {x y : Str} {v : V} (h : (y == x) = false) : ∀ {l : List (Str × V)}, l.lookup y = some v → (del x l).lookup y = some v
  | [], e => by cases e
  | (z, u) :: r, e => by
    unfold del
    rw [List.filter_cons]
    rw [List.lookup_cons] at e
    cases hz : z == x with
    | true =>
      have hyz : (y == z) = false := by rw [beq_iff_eq.mp hz]; exact h
      rw [hyz] at e
      simp only [Bool.not_true, Bool.false_eq_true, if_false]
      exact lk_del h e
    | false =>
      simp only [Bool.not_false, if_true]
      rw [List.lookup_cons]
      cases hy : y == z with
      | true => rw [hy] at e; exact e
      | false => rw [hy] at e; exact lk_del h e
noncomputable abbrev held (c : Cx) (a : Addr) : Cx := { c with hd := some a }
section
variable {c : Cx} {d k : Nat} {fx : Fx} {ρ ρ' ρ'' : List Addr} {σ σ' : St} {h h' h'' : Heap} {s s' s₁ : Shared} {A : Around} {Q : V → St → Prop} {X : Fl → St → Prop}
  {loc loc' : List (Str × V)} {hp hp' : List O}
theorem HRel.rehd {c' : Cx} {hd : Option Addr} (r : HRel c ρ hp h) (e : c' = { c with hd := hd }) (z : ∀ a, hd = some a → a ∈ ρ ∧ ∃ o, h.get? a = some o ∧ CtxNone o) : HRel c' ρ hp h := by
  subst e
  exact ⟨r.keep, r.len, r.nodup, r.fresh, r.obj, z⟩
theorem RelS.rehd {c' : Cx} {hd : Option Addr} (r : RelS c fx ρ σ s) (e : c' = { c with hd := hd }) (z : ∀ a, hd = some a → a ∈ ρ ∧ ∃ o, s.heap.get? a = some o ∧ CtxNone o) : RelS c' fx ρ σ s := by
  subst e
  exact ⟨{ toHRel := r.1.toHRel.rehd rfl z, ok := ⟨r.1.ok.k, r.1.ok.t, r.1.ok.bm⟩, loc := r.1.loc, lfresh := r.1.lfresh, lapart := r.1.lapart, pre := r.1.pre, glob := r.1.glob, bltn := r.1.bltn, kind := r.1.kind, cells := r.1.cells }, r.2⟩
theorem Rel.raised {i : Nat} {a : Addr} {o : O} {x oL oL' : Obj} (r : Rel c fx ρ ⟨loc, hp⟩ h) (hd : c.hd = none) (ha : ρ[i]? = some a) (hk : ∀ b o, b ≠ fx.env.locals → b ≠ a → h.get? b = some o → h'.get? b = some o)
    (hL : h.get? fx.env.locals = some oL) (hL' : h'.get? fx.env.locals = some oL') (hLd : oL'.data = oL.data) (hx : h'.get? a = some x) (ho : ∀ k : ImmKeep h h', OR ρ h' o x) : Rel c fx ρ ⟨loc, hp.set i o⟩ h' := by
  have km : ImmKeep h h' := fun b f hf e => by
    refine hk b f (fun q => ?_) (fun q => ?_) e
    · obtain ⟨o', es, ep, h1, h2⟩ := r.locAt
      rw [← q, e] at h1; cases h1
      exact hf.notDict h2
    · exact r.toHRel.notFix hf e (q ▸ mem_of_get? ha)
  obtain ⟨m, ⟨o₁, es, ep, k1, k2, k3⟩, hv⟩ := r.loc
  rw [hL] at k1; cases k1
  refine { toHRel := ⟨fun b o e => hk b o (fun q => ?_) (fun q => ?_) (r.keep b o e), by simp [r.len], r.nodup, r.fresh, fun j b o' e1 e2 => ?_, fun b e => by rw [hd] at e; cases e⟩, ok := r.ok, loc := ⟨m, ⟨oL', es, ep, hL', hLd.trans k2, k3⟩, fun x v e => let ⟨u, h1, h2⟩ := hv x v e; ⟨u, h1, h2.mono (List.prefix_refl _) km⟩⟩,
           lfresh := r.lfresh, lapart := r.lapart, pre := r.pre, glob := r.glob, bltn := r.bltn, kind := r.kind, cells := r.cells }
  · have := r.lfresh
    rw [← q, e] at this; cases this
  · have := r.fresh a (mem_of_get? ha)
    rw [← q, e] at this; cases this
  · by_cases hj : j = i
    · subst hj
      rw [ha] at e1; cases e1
      have hlt : j < hp.length := by rw [← r.len]; exact (List.getElem?_eq_some_iff.mp ha).1
      rw [List.getElem?_set_self hlt] at e2; cases e2
      exact ⟨x, hx, ho km⟩
    · rw [List.getElem?_set_ne (Ne.symm hj)] at e2
      obtain ⟨y, h1, h2⟩ := r.obj j b o' e1 e2
      refine ⟨y, hk b y (fun q => r.lapart (q ▸ mem_of_get? e1)) (fun q => ?_) h1, h2.mono (List.prefix_refl _) km⟩
      subst q
      exact hj (nodup_get r.nodup e1 ha)
theorem Rel.delLoc {x : Str} {m : Str → Option Value} {m' : Str → Option Value} (r : Rel c fx ρ ⟨loc, hp⟩ h) (hm : h.Ns fx.env.locals m) (hn : h'.Ns fx.env.locals m') (he : ∀ y, y ≠ x → m' y = m y) (hs : Heap.SameBut fx.env.locals h h') : Rel c fx ρ ⟨del x loc, hp⟩ h' := by
  have ks : Keep [fx.env.locals] h h' := .of_sameBut hs
  have k : ImmKeep h h' := r.immKeep (ks.sub fun b m => by rw [List.mem_singleton] at m; subst m; exact .head _)
  obtain ⟨m₁, hm', hl⟩ := r.loc
  have em : m₁ = m := by
    obtain ⟨o₁, es₁, ep₁, e1, e2, _, e3⟩ := hm
    obtain ⟨o₂, es₂, ep₂, f1, f2, _, f3⟩ := hm'
    rw [e1] at f1; cases f1
    rw [e2] at f2; cases f2
    funext y; rw [← e3, ← f3]
  subst em
  exact { toHRel := r.toHRel.side ks (fun b m => by rw [List.mem_singleton] at m; subst m; exact r.lfresh) (fun b m => by rw [List.mem_singleton] at m; subst m; exact r.lapart)
            (fun b m o e => by
              rw [List.mem_singleton] at m; subst m
              obtain ⟨o₁, es, ep, e1, e2⟩ := r.locAt
              rw [e] at e1; cases e1
              exact fun f => f.notDict e2)
          ok := r.ok
          loc := ⟨_, hn, fun y v' e => by
            obtain ⟨hy, e'⟩ := del_lookup e
            obtain ⟨u', h1, h2⟩ := hl y v' e'
            exact ⟨u', (he y hy).trans h1, h2.mono (List.prefix_refl _) k⟩⟩
          lfresh := r.lfresh, lapart := r.lapart, pre := r.pre, glob := r.glob, bltn := r.bltn, kind := r.kind, cells := r.cells }
theorem nameGoes {M : Model} {E : Value → Shared → Prop} {env : Env} {n : Str} {pos : Pos} {m : Str → Option Value} {R : Unit → Shared → Prop} (hl : env.kindOf n = some .local) (hn : s.heap.Ns env.locals m)
    (hp : (env.scope.kind == .class || (env.scope.kind == .module && env.locals != env.globals)) = false)
    (h : ∀ h' m', h'.Ns env.locals m' → (∀ y, y ≠ n → m' y = m y) → Heap.SameBut env.locals s.heap h' → ∀ tk, R () { s with heap := h', toks := tk }) :
    wpAny M A (do bindName env n .none; unbindBehindTheSuite env n pos) R E s := by
  refine wpAny_bind (wpAny_bindName (wpAny_storeName_local hl hn (fun h₁ hn₁ hs₁ => ?_) hp))
  unfold unbindBehindTheSuite
  refine wpAny_onRaise ?_
  unfold unbindName
  refine wpAny_bind (wpAny_point (wpAny_bind ?_))
  unfold deleteName
  simp only [hl, hp]
  rw [if_neg (by decide)]
  refine wpAny_bind (wpAny_nsDel_keeps hn₁ fun h₂ v hn₂ hs₂ => ?_)
  simp only [if_true, Option.isSome_some, Bool.not_true, Bool.false_eq_true, if_false]
  exact wpAny_pure (wpAny_point (h h₂ _ hn₂ (fun y hy => by simp [hy]) (hs₁.trans hs₂) _))
theorem Room.mark {a : Addr} (R : Room c 60 A) (hd : c.hd = .none) : Room (held c a) 59 (A.mark (some (.ref a))) :=
  ⟨rfl, by have := R.2; show A.depth + _ < _; omega, by have := R.3; show A.units + _ < _; omega, by decide, fun e => absurd e (by decide), R.6⟩
end
end Mine
namespace Mine
open PySem PySem.W PyProof.Rows
section
variable {c : Cx} {d k : Nat} {fx : Fx} {ρ ρ' ρ'' : List Addr} {σ σ' : St} {h h' h'' : Heap} {s s' s₁ : Shared} {A : Around} {Q : V → St → Prop} {X : Fl → St → Prop}
  {loc loc' : List (Str × V)} {hp hp' : List O}
inductive KP (s : Shared) (P : Value → Heap → Prop) (x : Value) (s' : Shared) : Prop
  | mk (k : ∀ b o, s.heap.get? b = some o → s'.heap.get? b = some o) (g : s'.gens = s.gens) (o : s'.os = s.os) (q : P x s'.heap) : KP s P x s'
inductive KPs (s : Shared) (P : List Value → Heap → Prop) (x : List Value) (s' : Shared) : Prop
  | mk (k : ∀ b o, s.heap.get? b = some o → s'.heap.get? b = some o) (g : s'.gens = s.gens) (o : s'.os = s.os) (q : P x s'.heap) : KPs s P x s'
noncomputable def KV (c : Cx) (fx : Fx) (t : Sem Value) (σ : St) (P : Value → Heap → Prop) : Prop := ∀ ρ s A, RelS c fx ρ σ s → wpAny c.M A t (KP s P) noE s
noncomputable def KVs (c : Cx) (fx : Fx) (t : Sem (List Value)) (σ : St) (P : List Value → Heap → Prop) : Prop := ∀ ρ s A, RelS c fx ρ σ s → wpAny c.M A t (KPs s P) noE s
theorem KV.gbi {x : Str} {pos : Pos} {u : Value} {P : Value → Heap → Prop} (e : nsIn c.K mainGlobals x = some none) (hv : bootBuiltins x = some u) (hn : x ≠ "__name__") (q : ∀ h, P u h)
    (hx : fx.env.kindOf x = some .globalImplicit := by rfl) (hd : (x == ("__debug__" : Str)) = false := by decide) : KV c fx (eval (.Name x pos) fx.env) σ P := fun ρ s A r =>
  Calls.Name_function_global r.1.kind hx (Calls.loadGlobal_builtin r.1.gNs (mg_none_of r.1.ok.k r.1.ok.t.g e) r.1.bNs ((r.1.ok.t.builtins x hn).trans hv) ⟨fun _ _ e => e, rfl, rfl, q _⟩) hd
theorem KV.glob {x : Str} {pos : Pos} {a : Addr} {P : Value → Heap → Prop} (e : nsIn c.K mainGlobals x = some (some (.ref a))) (q : ∀ h, P (.ref a) h)
    (hx : fx.env.kindOf x = some .globalImplicit := by rfl) (hd : (x == ("__debug__" : Str)) = false := by decide) : KV c fx (eval (.Name x pos) fx.env) σ P := fun ρ s A r =>
  Calls.Name_function_global r.1.kind hx (Calls.loadGlobal_global r.1.gNs (mg_of r.1.ok.k r.1.ok.t.g e) ⟨fun _ _ e => e, rfl, rfl, q _⟩) hd
theorem KVs.nil {pos : Pos} {P : List Value → Heap → Prop} (q : ∀ h, P [] h) : KVs c fx (spliced (backTo pos (starEach [] fx.env))) σ P := fun ρ s A _ => args_nil ⟨fun _ _ e => e, rfl, rfl, q _⟩
theorem RelS.kept (r : RelS c fx ρ σ s) (k : ∀ b o, s.heap.get? b = some o → s'.heap.get? b = some o) (g : s'.gens = s.gens) (o : s'.os = s.os) : RelS c fx ρ σ s' := ⟨r.1.ext k, g.trans r.2.1, o.trans r.2.2⟩
theorem KVs.cons {e : Expr} {rest : List Expr} {pos : Pos} {P : List Value → Heap → Prop} (u : Value) (h : KV c fx (eval e fx.env) σ (fun v _ => v = u)) (hr : KVs c fx (spliced (backTo pos (starEach rest fx.env))) σ (fun vs h => P (u :: vs) h)) (hst : starless e = true := by rfl) :
    KVs c fx (spliced (backTo pos (starEach (e :: rest) fx.env))) σ P := fun ρ s A r => by
  refine args_cons (wpAny_mono (h ρ s A r) ?_ fun _ _ e => e) (starEach_cons hst)
  rintro x s₁ ⟨k₁, g₁, o₁, rfl⟩
  refine wpAny_mono (hr ρ s₁ A (r.kept k₁ g₁ o₁)) ?_ fun _ _ e => e
  rintro xs s₂ ⟨k₂, g₂, o₂, q⟩
  exact ⟨fun b o e => k₂ b o (k₁ b o e), g₂.trans g₁, o₂.trans o₁, q⟩
theorem KV.tuple {elts : List Expr} {k : Nat} {pos : Pos} {us : List Value} {P : Value → Heap → Prop} (hl : us.length ≤ 1000) (h : KVs c fx (spliced (backTo pos (starEach elts fx.env))) σ (fun vs _ => vs = us)) (q : ∀ a n h, h.get? a = some (tupObj us.toArray n) → P (.ref a) h) :
    KV c fx (eval (.Tuple elts k pos) fx.env) σ P := fun ρ s A r => by
  refine Tuple_ (wpAny_mono (h ρ s A r) ?_ fun _ _ e => e)
  rintro xs s₁ ⟨k₁, g₁, o₁, rfl⟩
  refine wpAny_newTuple ?_ (by rw [sizeLine_eq]; omega)
  exact ⟨fun b o e => Heap.get?_push_of_some _ (k₁ b o e), g₁, o₁, q _ 0 _ (Heap.get?_push_size _ rfl)⟩
inductive TryI (c : Cx) (fx : Fx) (X : Fl → St → Prop) (t1 t2 : Expr) (n : Str) (suite : List Stmt) (v : V) (σ₁ : St) : Prop
  | mk (i : Nat) (C : Addr) (dn : Option Nat) (args : V) (Ts : List String) (σ₂ : St) (h0 : v = .ref i) (h1 : σ₁.hp[i]? = some (.exc C dn args false)) (Z : ExcK c.K C) (ht : typeIn c.K (.ref C) = some (.type "type"))
    (hT : ∀ T ∈ Ts, isSubtype (.type T) (.type "BaseException") = pure true) (hN : ∀ T ∈ Ts, [Value.ref C, .type "Exception", .type "BaseException", .type "object"].contains (.type T) = false)
    (e2 : σ₂ = ⟨σ₁.loc, σ₁.hp.set i (.exc C dn args true)⟩)
    (q1 : KV c fx (eval t1 fx.env) σ₂ (fun x h => ∃ ta n, x = .ref ta ∧ h.get? ta = some (tupObj (Ts.map Value.type).toArray n)))
    (q2 : KV c fx (eval t2 fx.env) σ₂ (fun x _ => x = .ref C))
    (q3 : ∀ a, XV (held c a) 59 fx (execs suite fx.env) ⟨put n (.ref i) σ₂.loc, σ₂.hp⟩ (fun f σ₄ => X f ⟨del n σ₄.loc, σ₄.hp⟩)) : TryI c fx X t1 t2 n suite v σ₁
theorem XV.tryRaise {exc t1 t2 : Expr} {b1 : List Stmt} {n : Str} {b₀ : Stmt} {suite : List Stmt} {rp p1 p2 pos : Pos} (hd : c.hd = none) (hfr : c.A₀.frames = some []) (htop : fx.env = c.top)
    (h : EV c 60 fx (eval exc fx.env) σ (TryI c fx X t1 t2 n (b₀ :: suite))) (hL : fx.env.frame = some fx.env.locals := by rfl) (hl : fx.env.kindOf n = some .local := by rfl) :
    XV c 60 fx (exec (.Try [.Raise (some exc) none rp] [.ExceptHandler (some t1) none b1 p1, .ExceptHandler (some t2) (some n) (b₀ :: suite) p2] [] [] pos) fx.env) σ X := fun ρ s A R r => by
  have hA := R.top rfl
  have hh := R.none hd
  rw [arm_exec_Try]
  refine wpAny_bind (wpAny_standAt ?_)
  refine wpAny_tryStmt_except ?_
  refine wpAny_execs_cons ?_
  refine raise_err (K := c.K) hh (wpAny_mono (h ρ s A R r) ?_ fun _ _ z => z.elim)
  rintro x s₁ ⟨ρ₁, v, ⟨loc₁, hp₁⟩, p₁, e₁, r₁, v₁, i, C, dn, args, Ts, σ₂, rfl, h1, Z, ht, hT, hN, rfl, q1, q2, q3⟩
  cases v₁ using VR.refC with
  | ref hx =>
    rename_i a
    obtain ⟨a', ox, g1, g2, dd, x0, f1, f2, f3, f4, f5, rfl, g3, g4, g5⟩ := r₁.1.toHRel.at h1
    have ea := Option.some.inj (hx.symm.trans g1)
    subst ea
    obtain ⟨rfl, rfl, rfl, rfl, rfl⟩ := g5 rfl
    have X0 := r₁.1.ok.k.keeps r₁.1.keep
    refine ⟨a, C, dd, _, rfl, g2, rfl, Z, X0, ht, ?_⟩
    obtain ⟨oL, es, ep, hL1, hL2⟩ := r₁.1.locAt
    have hnf : oL.isFreed = false := by obtain ⟨cc, dc, dt, sl⟩ := oL; obtain rfl : dt = _ := hL2; rfl
    have hLa : fx.env.locals ≠ a := fun q => r₁.1.lapart (q ▸ mem_of_get? hx)
    have hkm : fx.env.scope.kind ≠ .module := by rw [r₁.1.kind]; decide
    have hfr' : A.frames = some [fx.env] := by rw [hA, ← htop]; show c.A₀.frames.map _ = _; rw [hfr]; rfl
    refine wpAny_noteFrame_new (L := fx.env.locals) hkm hfr' hL hL1 hnf g2 hLa rfl rfl fun h₂ tb oL' pl hpl hk₂ hL₂ hLd₂ htb he₂ htb₂ => ?_
    have hap : tb ≠ fx.env.locals := fun q => by rw [q, hL1] at htb; cases htb
    have hta : tb ≠ a := fun q => by rw [q, g2] at htb; cases htb
    have htρ : tb ∉ ρ₁ := fun m => by obtain ⟨_, _, y, _, _, hy, _⟩ := r₁.1.toHRel.mem m; rw [htb] at hy; cases hy
    have ht0 : c.H₀.get? tb = none := by
      cases q : c.H₀.get? tb with
      | none => rfl
      | some o => have := r₁.1.keep _ _ q; rw [htb] at this; cases this
    have he₂' : h₂.get? a = some (excObj C dd #[x0, .ref tb, .none, .none, .bool false, .none]) := he₂
    refine wpAny_setFlight_none (s := { s₁ with heap := h₂ }) (tb := tb) he₂' rfl rfl htb₂ rfl (by simp) ?_
    have he₃ : (h₂.update tb (Obj.mapFields (·.setIfInBounds 3 .none))).get? a = some (excObj C dd #[x0, .ref tb, .none, .none, .bool false, .none]) := (Heap.get?_update_ne _ _ _ _ hta.symm).trans he₂'
    have hL₃ : (h₂.update tb (Obj.mapFields (·.setIfInBounds 3 .none))).get? fx.env.locals = some oL' := (Heap.get?_update_ne _ _ _ _ hap.symm).trans hL₂
    have htb₃ : ∃ otb tvs, (h₂.update tb (Obj.mapFields (·.setIfInBounds 3 .none))).get? tb = some otb ∧ otb.cls = .type "traceback" ∧ otb.data = .fields tvs ∧ 3 < tvs.size := by
      refine ⟨_, _, Heap.get?_update_self _ htb₂ (Obj.isFreed_of_fields (Obj.data_mapFields rfl _)), rfl, Obj.data_mapFields rfl _, by simp⟩
    have hk₃ : ∀ b o, b ≠ fx.env.locals → b ≠ a → s₁.heap.get? b = some o → (h₂.update tb (Obj.mapFields (·.setIfInBounds 3 .none))).get? b = some o := fun b o n1 n2 e =>
      (Heap.get?_update_ne _ _ _ _ (fun q => by subst q; rw [htb] at e; cases e)).trans (hk₂ b o n1 n2 e)
    generalize h₂.update tb (Obj.mapFields (·.setIfInBounds 3 .none)) = h₃ at he₃ hL₃ htb₃ hk₃
    have r₃ : RelS c fx ρ₁ ⟨loc₁, hp₁.set i (.exc C dn args true)⟩ { s₁ with heap := h₃ } := ⟨r₁.1.raised hd hx hk₃ hL1 hL₃ hLd₂ he₃ fun km => ⟨dd, x0, _, _, _, _, _, rfl, g3.mono (List.prefix_refl _) km, g4, fun e => by cases e⟩, r₁.2⟩
    have e₃ : Ext fx ρ₁ s₁.heap ρ₁ h₃ := ⟨fun _ m => .inl m, fun b o nb e => hk₃ b o (fun q => nb (q ▸ .head _)) (fun q => nb (.tail _ (q ▸ mem_of_get? hx))) e⟩
    have R' := R.mark (a := a) hd
    have hi₂ : (hp₁.set i (O.exc C dn args true))[i]? = some (.exc C dn args true) := List.getElem?_set_self (List.getElem?_eq_some_iff.mp h1).1
    obtain ⟨otb, tvs, ht1, ht2, ht3, ht4⟩ := htb₃
    refine wpAny_handleBy_cons (codeAny_handlers_test (wpAny_mono (q1 ρ₁ _ _ r₃) ?_ fun _ _ z => z.elim)) (by intro q; cases q)
    rintro y s₄ ⟨k₄, gg₄, go₄, ta, nt, rfl, ha4⟩
    have r₄ := r₃.kept k₄ gg₄ go₄
    refine misses_tuple Z (r₄.1.ok.k.keeps r₄.1.keep) (k₄ _ _ he₃) ha4 hT hN ?_
    refine wpAny_handleBy_cons (codeAny_handlers_test (wpAny_mono (q2 ρ₁ _ _ r₄) ?_ fun _ _ z => z.elim)) (by intro q; cases q)
    rintro y s₅ ⟨k₅, gg₅, go₅, rfl⟩
    have r₅ := r₄.kept k₅ gg₅ go₅
    have he₅ := k₅ _ _ (k₄ _ _ he₃)
    have ht5 := k₅ _ _ (k₄ _ _ ht1)
    refine hits_own Z (r₅.1.ok.k.keeps r₅.1.keep) he₅ ht ?_
    refine codeAny_handlers_suite_as ?_
    refine wpAny_setFlight_none (tb := tb) he₅ rfl rfl ht5 ht3 ht4 ?_
    have hs₆ : Keep [tb] s₅.heap (s₅.heap.update tb (Obj.mapFields (·.setIfInBounds 3 .none))) := .of_sameBut (Heap.SameBut.update ..)
    have he₆ : (s₅.heap.update tb (Obj.mapFields (·.setIfInBounds 3 .none))).get? a = some (excObj C dd #[x0, .ref tb, .none, .none, .bool false, .none]) := (Heap.get?_update_ne _ _ _ _ hta.symm).trans he₅
    have r₆ : RelS c fx ρ₁ ⟨loc₁, hp₁.set i (.exc C dn args true)⟩ { s₅ with heap := s₅.heap.update tb (Obj.mapFields (·.setIfInBounds 3 .none)) } :=
      ⟨r₅.1.side hs₆ (fun b m => by rw [List.mem_singleton] at m; subst m; exact ht0) (fun b m => by rw [List.mem_singleton] at m; subst m; exact htρ) (fun m => hap (List.mem_singleton.mp m).symm)
        (fun b m o e => by rw [List.mem_singleton] at m; subst m; rw [ht5] at e; cases e; exact notFix_of ht2 (by decide)), r₅.2⟩
    have e₆ : Ext fx ρ₁ s₁.heap ρ₁ (s₅.heap.update tb (Obj.mapFields (·.setIfInBounds 3 .none))) := ⟨fun _ m => .inl m, fun b o nb e => hs₆ b o (fun m => by rw [List.mem_singleton] at m; subst m; rw [htb] at e; cases e) (k₅ _ _ (k₄ _ _ (e₃.keep b o nb e)))⟩
    generalize s₅.heap.update tb (Obj.mapFields (·.setIfInBounds 3 .none)) = h₆ at he₆ r₆ e₆
    have rh := r₆.rehd (c' := held c a) (hd := some a) rfl fun b e => by cases e; exact ⟨mem_of_get? hx, _, he₆, _, rfl, rfl⟩
    refine wpAny_mono (storeL (c := held c a) (A := A.mark (some (.ref a))) (R := fun _ s' => Ext fx ρ₁ h₆ ρ₁ s'.heap ∧ RelS (held c a) fx ρ₁ ⟨put n (.ref i) loc₁, hp₁.set i (.exc C dn args true)⟩ s') rh (.ref hx) (fun s' e' r' => ⟨e', r'⟩) hl) ?_ fun _ _ z => z.elim
    rintro _ s₆ ⟨e₇, r₇⟩
    refine wpAny_mono (q3 a ρ₁ s₆ _ R' r₇) ?_ fun _ _ z => z.elim
    rintro f s₈ ⟨ρ₈, fl, ⟨loc₈, hp₈⟩, e₈, r₈, hf, q⟩
    have r₉ : RelS c fx ρ₈ ⟨loc₈, hp₈⟩ s₈ := r₈.rehd (c' := c) (hd := none) (by obtain ⟨⟩ := c; cases hd; rfl) fun b e => by cases e
    obtain ⟨m₈, hm₈, _⟩ := r₉.1.loc
    refine nameGoes hl hm₈ (by rw [r₉.1.kind]; rfl) fun h₉ m₉ hm₉ he₉ hs₉ tk => ?_
    have e₉ : Ext fx ρ₈ s₈.heap ρ₈ h₉ := .setLoc hs₉
    have r₁₀ : RelS c fx ρ₈ ⟨del n loc₈, hp₈⟩ { s₈ with heap := h₉, toks := tk } := ⟨r₉.1.delLoc hm₈ hm₉ he₉ hs₉, r₉.2⟩
    have hLx : ∃ o, h₆.get? fx.env.locals = some o := r₆.1.hasL
    have hLy : ∃ o, s₆.heap.get? fx.env.locals = some o := r₇.1.hasL
    refine ⟨ρ₈, fl, _, (e₁.trans ((e₆.trans e₇ hLx).trans (e₈.trans e₉ r₉.1.hasL) hLy) r₁.1.hasL), r₁₀, ?_, q⟩
    cases hf with
    | next => exact .next
    | brk => exact .brk
    | cont => exact .cont
    | ret hv => exact .ret (hv.mono (List.prefix_refl _) (r₉.1.immKeep e₉.keep))
end
end Mine
namespace Mine
open PySem PySem.W PyProof.Rows PySem.SeqAt

noncomputable def clB : Stmt → List Stmt
  | .ClassDef _ _ _ body .. => body
  | _ => []
noncomputable def fName : Stmt → Str
  | .FunctionDef n .. => n
  | _ => ""
noncomputable def fArgs : Stmt → Arguments
  | .FunctionDef _ a .. => a
  | _ => ⟨[], [], none, [], [], none, []⟩
noncomputable def fBody : Stmt → List Stmt
  | .FunctionDef _ _ b .. => b
  | _ => []
noncomputable def fScope : Stmt → Scope
  | .FunctionDef _ _ _ _ _ _ s .. => s
  | _ => ⟨.function, [], false, false, []⟩
noncomputable def nthS : List Stmt → Nat → Stmt
  | [], _ => .Pass ⟨0, 0, 0, 0⟩
  | s :: _, 0 => s
  | _ :: r, n + 1 => nthS r n
noncomputable def stmt (n : Nat) : Stmt := nthS PySem.Challenge.pw_dm0214_01.main.body n
noncomputable def meth (n : Nat) : Stmt := nthS (clB (stmt 1)) n

noncomputable def FnK (K : Frag) (a : Addr) (qual : Str) (S : Stmt) : Prop :=
  ∃ oc od doc pm cd ct osl, K.lookup a = some ⟨oc, od, .func (fnX (fName S) qual (fArgs S) (fBody S) (fScope S) [] .none .none doc pm none cd ct), osl⟩ ∧ codeIn K cd qual = true
theorem FV.fn {c : Cx} {k : Nat} {a : Addr} {qual : Str} {S : Stmt} {ns : List Str} {vs : List V} {hp : List O} {Q : V → List O → Prop} (hK : FnK c.K a qual S)
    (hb : ∀ doc pm cd ct, ∀ xs : List Value, ns.length = xs.length → bindArgs (fnX (fName S) qual (fArgs S) (fBody S) (fScope S) [] .none .none doc pm none cd ct) ⟨xs, []⟩ = pure (ns.zip xs)) (hl : ns.length = vs.length) (hnd : ns.Nodup)
    (hloc : ns.all (fun n => (fScope S).names.lookup n == some .local) = true) (hcell : (fScope S).names.any (fun x => x.2 == .cell) = false)
    (h : ∀ L cd ρ₀, ρ₀.length = hp.length → XV c k ⟨envX qual (fScope S) L a cd [], [], ρ₀⟩ (execs (fBody S) (envX qual (fScope S) L a cd [])) ⟨ns.zip vs, hp⟩ (retQ Q))
    (hco : (fScope S).isCoroutine = false := by rfl) (hgen : (fScope S).isGenerator = false := by rfl) (hk : (fScope S).kind = .function := by rfl) :
    FV c (k + 1) (.top a) vs hp Q := by
  obtain ⟨oc, od, doc, pm, cd, ct, osl, h1, h2⟩ := hK
  refine FV.def h1 h2 (hb doc pm cd ct) hl hnd (fun n hn => ?_) (fun x hx e => ?_) (fun L ρ₀ => h L cd ρ₀) hco hgen hk
  · exact beq_iff_eq.mp (List.all_eq_true.mp hloc n hn)
  · have := List.any_eq_false.mp hcell x hx
    rw [e] at this; exact this rfl

noncomputable def FnKd (K : Frag) (a T : Addr) (qual : Str) (S : Stmt) (dv : List Value) : Prop :=
  (∃ oc od kV doc pm cd ct osl, K.lookup a = some ⟨oc, od, .func (fnX (fName S) qual (fArgs S) (fBody S) (fScope S) [] (.ref T) kV doc pm none cd ct), osl⟩ ∧ codeIn K cd qual = true) ∧ ∃ toc tod tn tsl, K.lookup T = some ⟨toc, tod, .seq dv.toArray tn, tsl⟩
theorem FVk.fnd {c : Cx} {k : Nat} {a T : Addr} {qual : Str} {S : Stmt} {dv : List Value} {ns kn : List Str} {vs kv us : List V} {hp : List O} {Q : V → List O → Prop} (hK : FnKd c.K a T qual S dv) (sel : List Value → List Value → List Value)
    (hb : ∀ kV doc pm cd ct, ∀ xs ys : List Value, vs.length = xs.length → kv.length = ys.length → ∃ kk, bindArgs (fnX (fName S) qual (fArgs S) (fBody S) (fScope S) [] (.ref T) kV doc pm none cd ct) ⟨xs, kn.zip ys⟩ = seqItems? (.ref T) >>= kk ∧ kk (some dv.toArray) = pure (ns.zip (sel xs ys)))
    (hu : ∀ ρ h xs ys, VRs ρ h vs xs → VRs ρ h kv ys → VRs ρ h us (sel xs ys)) (hl : ns.length = us.length) (hnd : ns.Nodup)
    (hloc : ns.all (fun n => (fScope S).names.lookup n == some .local) = true) (hcell : (fScope S).names.any (fun x => x.2 == .cell) = false)
    (h : ∀ L cd ρ₀, ρ₀.length = hp.length → XV c k ⟨envX qual (fScope S) L a cd [], [], ρ₀⟩ (execs (fBody S) (envX qual (fScope S) L a cd [])) ⟨ns.zip us, hp⟩ (retQ Q))
    (hco : (fScope S).isCoroutine = false := by rfl) (hgen : (fScope S).isGenerator = false := by rfl) (hk : (fScope S).kind = .function := by rfl) :
    FVk c (k + 1) (.top a) vs kn kv hp Q := by
  obtain ⟨⟨oc, od, kV, doc, pm, cd, ct, osl, h1, h2⟩, toc, tod, tn, tsl, h3⟩ := hK
  refine FVk.defD sel h1 h3 h2 (hb kV doc pm cd ct) hu hl hnd (fun n hn => ?_) (fun x hx e => ?_) (fun L ρ₀ => h L cd ρ₀) hco hgen hk
  · exact beq_iff_eq.mp (List.all_eq_true.mp hloc n hn)
  · have := List.any_eq_false.mp hcell x hx
    rw [e] at this; exact this rfl
structure ErrK (K : Frag) (C aI aD aS : Addr) : Prop where
  cls : ExcK K C
  makes : makesExcIn K C = true
  gC : nsIn K mainGlobals "NetrcParseError" = some (some (.ref C))
  kC : keepIn K (.ref C) = true
  init : findIn K (.ref C) "__init__" = some (some (.ref aI))
  tI : typeIn K (.ref aI) = some (.type "function")
  fI : FnKd K aI aD "NetrcParseError.__init__" (meth 0) [.none, .none]
  st : findIn K (.ref C) "__str__" = some (some (.ref aS))
  tS : isFn K (.ref aS) = true
  fS : FnK K aS "NetrcParseError.__str__" (meth 1)
  a1 : findIn K (.ref C) "filename" = some none
  a2 : findIn K (.ref C) "lineno" = some none
  a3 : findIn K (.ref C) "msg" = some none
  ar : findIn K (.ref C) "args" = some (some (.builtin "BaseException.args"))
  gE : nsIn K mainGlobals "Exception" = some none
noncomputable abbrev at_ (kvs : List (Str × V)) (n : Str) : Option V := kvs.lookup n
theorem app_get {α : Type} {l ext : List α} {i : Nat} {o : α} (e : l[i]? = some o) : (l ++ ext)[i]? = some o := by rw [List.getElem?_append_left (List.getElem?_eq_some_iff.mp e).1]; exact e
theorem lk_ne {x y : Str} {u v : V} {loc : List (Str × V)} (e : loc.lookup y = some v) (h : (y == x) = false) : (put x u loc).lookup y = some v := by rw [put_lookup, h]; exact e
theorem lk_eq {x : Str} {u : V} {loc : List (Str × V)} : (put x u loc).lookup x = some u := by rw [put_lookup]; simp
theorem ga {hp : List O} {x : O} {g : List O} : (hp ++ x :: g)[hp.length]? = some x := by simp
theorem sa {hp : List O} {x y : O} {g : List O} : (hp ++ x :: g).set hp.length y = hp ++ y :: g := by rw [List.set_append_right _ _ (Nat.le_refl _)]; simp
theorem set_ne {α : Type} {l : List α} {i j : Nat} {x o : α} (h : i ≠ j) (e : l[i]? = some o) : (l.set j x)[i]? = some o := by rw [List.getElem?_set_ne (Ne.symm h)]; exact e
theorem set_at {α : Type} {l : List α} {i : Nat} {x o : α} (e : l[i]? = some o) : (l.set i x)[i]? = some x := List.getElem?_set_self (List.getElem?_eq_some_iff.mp e).1
theorem lt_of_get {α : Type} {l : List α} {i : Nat} {o : α} (e : l[i]? = some o) : i < l.length := (List.getElem?_eq_some_iff.mp e).1
end Mine
namespace Mine
open PySem PySem.W PyProof.Rows PySem.SeqAt
section
variable {c : Cx} {C aI aD aS : Addr}
noncomputable abbrev ens (f l m : V) : O := .ns [("filename", f), ("lineno", l), ("msg", m)]
structure Given (vs kv : List V) (kn : List Str) (m f l : V) (sel : List Value → List Value → List Value) : Prop where
  few : vs.length ≤ 100
  rel : ∀ ρ h x xs ys, VRs ρ h vs xs → VRs ρ h kv ys → ∃ a b d, sel (x :: xs) ys = [x, a, b, d] ∧ VRs ρ h [m, f, l] [a, b, d]
  bnd : ∀ {T : Addr} {kV doc pm cd ct : Value} {xs ys : List Value}, vs.length + 1 = xs.length → kv.length = ys.length → ∃ kk, bindArgs (fnX (fName (meth 0)) "NetrcParseError.__init__" (fArgs (meth 0)) (fBody (meth 0)) (fScope (meth 0)) [] (.ref T) kV doc pm none cd ct) ⟨xs, kn.zip ys⟩ = seqItems? (.ref T) >>= kk ∧
    kk (some [Value.none, .none].toArray) = pure ((["self", "msg", "filename", "lineno"] : List Str).zip (sel xs ys))
theorem listEq1 {α : Type} {xs : List α} (h : 1 = xs.length) : ∃ a, xs = [a] := by rcases xs with _ | ⟨a, _ | ⟨b, r⟩⟩ <;> simp at h; exact ⟨_, rfl⟩
theorem listEq2 {α : Type} {xs : List α} (h : 2 = xs.length) : ∃ a b, xs = [a, b] := by rcases xs with _ | ⟨a, _ | ⟨b, _ | ⟨c, r⟩⟩⟩ <;> simp at h; exact ⟨_, _, rfl⟩
theorem listEq3 {α : Type} {xs : List α} (h : 3 = xs.length) : ∃ a b c, xs = [a, b, c] := by rcases xs with _ | ⟨a, _ | ⟨b, _ | ⟨c, _ | ⟨d, r⟩⟩⟩⟩ <;> simp at h; exact ⟨_, _, _, rfl⟩
theorem listEq4 {α : Type} {xs : List α} (h : 4 = xs.length) : ∃ a b c d, xs = [a, b, c, d] := by rcases xs with _ | ⟨a, _ | ⟨b, _ | ⟨c, _ | ⟨d, _ | ⟨e, r⟩⟩⟩⟩⟩ <;> simp at h; exact ⟨_, _, _, _, rfl⟩
theorem given0 (m : V) : Given [m] [] [] m .none .none (fun xs _ => xs ++ [.none, .none]) where
  few := by simp
  rel := fun ρ h x xs ys v w => by
    cases v using VRs.consC with
    | cons v1 v2 => cases v2 using VRs.nilC; exact ⟨_, _, _, rfl, .cons v1 (.cons .none (.cons .none .nil))⟩
  bnd := fun h h' => by
    obtain ⟨a, b, rfl⟩ := listEq2 h
    obtain rfl := List.length_eq_zero_iff.mp h'.symm
    exact ⟨_, rfl, rfl⟩
theorem given1 (m f : V) : Given [m, f] [] [] m f .none (fun xs _ => xs ++ [.none]) where
  few := by simp
  rel := fun ρ h x xs ys v w => by
    cases v using VRs.consC with
    | cons v1 v2 => cases v2 using VRs.consC with
      | cons v2 v3 => cases v3 using VRs.nilC; exact ⟨_, _, _, rfl, .cons v1 (.cons v2 (.cons .none .nil))⟩
  bnd := fun h h' => by
    obtain ⟨a, b, d, rfl⟩ := listEq3 h
    obtain rfl := List.length_eq_zero_iff.mp h'.symm
    exact ⟨_, rfl, rfl⟩
theorem given2 (m f l : V) : Given [m, f, l] [] [] m f l (fun xs _ => xs) where
  few := by simp
  rel := fun ρ h x xs ys v w => by
    cases v using VRs.consC with
    | cons v1 v2 => cases v2 using VRs.consC with
      | cons v2 v3 => cases v3 using VRs.consC with
        | cons v3 v4 => cases v4 using VRs.nilC; exact ⟨_, _, _, rfl, .cons v1 (.cons v2 (.cons v3 .nil))⟩
  bnd := fun h h' => by
    obtain ⟨a, b, d, e, rfl⟩ := listEq4 h
    obtain rfl := List.length_eq_zero_iff.mp h'.symm
    exact ⟨_, rfl, rfl⟩
theorem given3 (m l : V) : Given [m] [l] ["lineno"] m .none l (fun xs ys => xs ++ [.none] ++ ys) where
  few := by simp
  rel := fun ρ h x xs ys v w => by
    cases v using VRs.consC with
    | cons v1 v2 => cases v2 using VRs.nilC; cases w using VRs.consC with
      | cons w1 w2 => cases w2 using VRs.nilC; exact ⟨_, _, _, rfl, .cons v1 (.cons .none (.cons w1 .nil))⟩
  bnd := fun h h' => by
    obtain ⟨a, b, rfl⟩ := listEq2 h
    obtain ⟨d, rfl⟩ := listEq1 h'
    exact ⟨_, rfl, rfl⟩
theorem given4 (m f l : V) : Given [] [l, f, m] ["lineno", "filename", "msg"] m f l (fun xs ys => xs ++ ys.reverse) where
  few := by simp
  rel := fun ρ h x xs ys v w => by
    cases v using VRs.nilC
    cases w using VRs.consC with
    | cons v1 v2 => cases v2 using VRs.consC with
      | cons v2 v3 => cases v3 using VRs.consC with
        | cons v3 v4 => cases v4 using VRs.nilC; exact ⟨_, _, _, rfl, .cons v3 (.cons v2 (.cons v1 .nil))⟩
  bnd := fun h h' => by
    obtain ⟨a, rfl⟩ := listEq1 h
    obtain ⟨b, d, e, rfl⟩ := listEq3 h'
    exact ⟨_, rfl, rfl⟩
theorem initErr {hp : List O} {vs kv : List V} {kn : List Str} {m f l : V} {sel : List Value → List Value → List Value} (Z : ErrK c.K C aI aD aS) (G : Given vs kv kn m f l sel) :
    FVk c 2 (.top aI) (.ref hp.length :: vs) kn kv (hp ++ [.exc C none (.tup vs) false]) (fun v hp' => v = .none ∧ hp' = hp ++ [.exc C (some (hp.length + 1)) (.tup [m]) false, ens f l m]) := by
  refine FVk.fnd Z.fI (ns := ["self", "msg", "filename", "lineno"]) (us := [.ref hp.length, m, f, l]) sel (fun _ _ _ _ _ xs ys h h' => G.bnd (by simpa using h) h') (fun ρ h xs ys v w => ?_) rfl (by decide) (by decide +kernel) (by decide +kernel) fun Lo cd ρ₀ hρ => ?_
  · cases v using VRs.consC with
    | cons v1 v2 =>
      obtain ⟨a, b, d, e, r⟩ := G.rel _ _ _ _ _ v2 w
      rw [e]; exact .cons v1 r
  refine XV.cons ?_
  refine XV.setattrE0 ?_
  refine EV.var rfl ?_
  refine EV.var rfl ?_
  refine ⟨hp.length, C, .tup vs, rfl, by simp, Z.cls, by unfold takerIn; rw [Z.a1]; rfl, ?_⟩
  refine XV.st2 (loc' := [("self", .ref hp.length), ("msg", m), ("filename", f), ("lineno", l)]) (hp' := hp ++ [.exc C (some (hp.length + 1)) (.tup vs) false, .ns [("filename", f)]]) rfl (by simp) ?_
  refine XV.cons ?_
  refine XV.setattrE ?_
  refine EV.var rfl ?_
  refine EV.var rfl ?_
  refine ⟨hp.length, C, hp.length + 1, .tup vs, false, [("filename", f)], rfl, by simp, by simp, Z.cls, by unfold takerIn; rw [Z.a2]; rfl, Nat.lt_of_sub_eq_succ rfl, ?_⟩
  refine XV.st2 (loc' := [("self", .ref hp.length), ("msg", m), ("filename", f), ("lineno", l)]) (hp' := hp ++ [.exc C (some (hp.length + 1)) (.tup vs) false, .ns [("filename", f), ("lineno", l)]]) rfl (by simp; rfl) ?_
  refine XV.cons ?_
  refine XV.setattrE ?_
  refine EV.var rfl ?_
  refine EV.var rfl ?_
  refine ⟨hp.length, C, hp.length + 1, .tup vs, false, [("filename", f), ("lineno", l)], rfl, by simp, by simp, Z.cls, by unfold takerIn; rw [Z.a3]; rfl, Nat.lt_of_sub_eq_succ rfl, ?_⟩
  refine XV.st2 (loc' := [("self", .ref hp.length), ("msg", m), ("filename", f), ("lineno", l)]) (hp' := hp ++ [.exc C (some (hp.length + 1)) (.tup vs) false, ens f l m]) rfl (by simp; rfl) ?_
  refine XV.cons ?_
  refine XV.expr ?_
  refine EV.excInit Z.gE ?_
  refine EVs.cons ?_
  refine EV.var rfl ?_
  refine EVs.cons ?_
  refine EV.var rfl ?_
  refine EVs.nil ?_
  refine ⟨hp.length, C, some (hp.length + 1), vs, [m], false, rfl, by simp, Z.cls, by simp, ?_⟩
  refine XV.nil ?_
  exact ⟨rfl, by simp⟩
theorem newErr {hp : List O} {vs kv : List V} {kn : List Str} {m f l : V} {sel : List Value → List Value → List Value} (Z : ErrK c.K C aI aD aS) (G : Given vs kv kn m f l sel) :
    FVk c 3 (.top C) vs kn kv hp (fun v hp' => v = .ref hp.length ∧ hp' = hp ++ [.exc C (some (hp.length + 1)) (.tup [m]) false, ens f l m]) :=
  FVk.newE Z.makes Z.init Z.tI G.few (fun ρ s A x xs ys R ok r vf va vk => codeAny_mono (initErr Z G ρ s A x xs ys R ok r vf va vk) fun _ _ ⟨ρ', v, hp', y, e, e1, r1, v1, q⟩ => ⟨ρ', v, hp', y, e, e1, r1, v1, q.1, rfl, q.2⟩)
inductive Showable (c : Cx) (C : Addr) (aS : Addr) (hp : List O) (k : Nat) (v : V) (l : List Nat) : Prop
  | str (e : v = .str l)
  | int (i : Int) (e : v = .int i) (hl : i.natAbs.log2 < 1920) (el : l = txtOf (toString i))
  | none (e : v = .none) (el : l = txtOf "None")
  | bool (b : Bool) (e : v = .bool b) (el : l = txtOf (if b then "True" else "False"))
  | pair (i j : Int) (e : v = .tup [.int i, .int j]) (hs : (PyData.tuple [.int i, .int j]).showable = true) (el : l = (PyData.tuple [.int i, .int j]).shown.cps.toList)
theorem Showable.fmt {hp : List O} {loc : List (Str × V)} {k d : Nat} {v : V} {l : List Nat} {fx : Fx} {Q : V → St → Prop} (Z : ErrK c.K C aI aD aS) (S : Showable c C aS hp k v l) (hl : l.length ≤ sizeLine) (hk : k ≤ d) (q : Q (.str l) ⟨loc, hp⟩) : FmtV c d fx v ⟨loc, hp⟩ Q := by
  cases S with
  | str e => subst e; exact FmtV.fmtStr hl q
  | int i e h el => subst e; subst el; exact FmtV.fmtInt h q
  | none e el => subst e; subst el; exact FmtV.fmtNone q
  | bool b e el => subst e; subst el; exact FmtV.fmtBool q
  | pair i j e hs el => subst e; subst el; exact FmtV.fmtPair (by simpa [Str.length] using hl) q hs
noncomputable abbrev wordsOf (m f l : List Nat) : List Nat := m ++ [32, 40] ++ f ++ [44, 32, 108, 105, 110, 101, 32] ++ l ++ [41]
theorem strErr {hp : List O} {m f l : V} {lm lf ll : List Nat} {e n : Nat} {a : V} {b : Bool} {k : Nat} (Z : ErrK c.K C aI aD aS) (h1 : hp[e]? = some (.exc C (some n) a b)) (h2 : hp[n]? = some (ens f l m))
    (hm : Showable c C aS hp k m lm) (hf : Showable c C aS hp k f lf) (hl : Showable c C aS hp k l ll) (hz : (wordsOf lm lf ll).length ≤ 100000) (vm : m.handed = true) (vf : f.handed = true) (vl : l.handed = true) :
    FV c (k + 1) (.top aS) [.ref e] hp (fun v hp' => v = .str (wordsOf lm lf ll) ∧ hp' = hp) := by
  have zs : ∀ n, n ≤ 100000 → n ≤ sizeLine := fun n hn => Nat.le_trans hn (by decide)
  simp only [wordsOf, List.length_append, List.length_cons, List.length_nil] at hz
  refine FV.fn Z.fS (ns := ["self"]) (fun _ _ _ _ xs h => by obtain ⟨_, rfl⟩ := len1 h; rfl) rfl (by decide) (by decide +kernel) (by decide +kernel) fun Lo cd ρ₀ hρ => ?_
  refine XV.cons ?_
  refine XV.ret ?_
  refine EV.joined ?_
  refine EJ.cons ?_
  refine EV.fmtS ?_
  refine EV.attrE ?_
  refine EV.var rfl ?_
  refine ⟨e, C, n, a, b, _, m, rfl, h1, h2, rfl, Z.cls, Z.a3, vm, ?_⟩
  refine hm.fmt Z (zs _ (by omega)) (Nat.le_refl _) ?_
  refine ⟨lm, rfl, zs _ (by simp only [List.length_append, List.length_nil]; omega), ?_⟩
  refine EJ.cons ?_
  refine EV.cstr (l := [32, 40]) ?_
  refine ⟨_, rfl, zs _ (by simp only [List.length_append, List.length_cons, List.length_nil]; omega), ?_⟩
  refine EJ.cons ?_
  refine EV.fmtS ?_
  refine EV.attrE ?_
  refine EV.var rfl ?_
  refine ⟨e, C, n, a, b, _, f, rfl, h1, h2, rfl, Z.cls, Z.a1, vf, ?_⟩
  refine hf.fmt Z (zs _ (by omega)) (Nat.le_refl _) ?_
  refine ⟨lf, rfl, zs _ (by simp only [List.length_append, List.length_cons, List.length_nil]; omega), ?_⟩
  refine EJ.cons ?_
  refine EV.cstr (l := [44, 32, 108, 105, 110, 101, 32]) ?_
  refine ⟨_, rfl, zs _ (by simp only [List.length_append, List.length_cons, List.length_nil]; omega), ?_⟩
  refine EJ.cons ?_
  refine EV.fmtS ?_
  refine EV.attrE ?_
  refine EV.var rfl ?_
  refine ⟨e, C, n, a, b, _, l, rfl, h1, h2, rfl, Z.cls, Z.a2, vl, ?_⟩
  refine hl.fmt Z (zs _ (by omega)) (Nat.le_refl _) ?_
  refine ⟨ll, rfl, zs _ (by simp only [List.length_append, List.length_cons, List.length_nil]; omega), ?_⟩
  refine EJ.cons ?_
  refine EV.cstr (l := [41]) ?_
  refine ⟨_, rfl, zs _ (by simp only [List.length_append, List.length_cons, List.length_nil]; omega), ?_⟩
  refine EJ.nil ?_
  exact ⟨by simp [wordsOf], rfl⟩
end
end Mine
namespace Mine
open PySem PySem.W PyProof.Rows PySem.SeqAt
structure FigK (K : Frag) (aF : Addr) : Prop where
  gF : nsIn K mainGlobals "_law_draws" = some (some (.ref aF))
  kF : keepIn K (.ref aF) = true
  fF : FnK K aF "_law_draws" (stmt 3)
  gLen : nsIn K mainGlobals "len" = some none
  gAbs : nsIn K mainGlobals "abs" = some none
section
variable {c : Cx} {C aI aR aG aF : Addr}
structure Scr (c : Cx) (a : Addr) (xs : List Value) (vs : List V) : Prop where
  lst : c.H₀.IsList a xs.toArray
  rel : ∀ ρ h, VRs ρ h vs xs
  nums : ∀ v ∈ vs, ∃ i : Int, v = .int i
noncomputable abbrev Draw := Nat × Int
noncomputable abbrev drV (p : Draw) : V := .tup [.int (p.1 : Nat), .int p.2]
noncomputable def drs (D : List Draw) : List V := D.map drV
theorem drs_len (D : List Draw) : (drs D).length = D.length := List.length_map _
noncomputable def DrOk (p : Draw) : Prop := p.1 < 1080 ∧ p.2.natAbs < 10 ^ 21
theorem ap1 {hp : List O} {a : O} {r : List O} : (hp ++ a :: r)[hp.length]? = some a := by rw [List.getElem?_append_right (by omega)]; simp
theorem as1 {hp : List O} {a x : O} {r : List O} : (hp ++ a :: r).set hp.length x = hp ++ x :: r := by rw [List.set_append_right _ _ (by omega)]; simp
structure DrI (hp : List O) (D : List Draw) (σ : St) : Prop where
  drw : at_ σ.loc "draws" = some (.ref hp.length)
  len : D.length ≤ 5
  ok : ∀ p ∈ D, DrOk p
  hp : σ.hp = hp ++ [.list (drs D)]
theorem DrI.put {hp : List O} {D : List Draw} {σ : St} {x : Str} {v : V} (I : DrI hp D σ) (h : (("draws" : Str) == x) = false) : DrI hp D ⟨Mine.put x v σ.loc, σ.hp⟩ :=
  ⟨lk_ne I.drw h, I.len, I.ok, I.hp⟩
theorem lawDraws {hp : List O} {a : Addr} {xs : List Value} {vs : List V} (hn : c.hd = none) (L : FigK c.K aF) (S : Scr c a xs vs) :
    FV c 2 (.top aF) [.top a] hp (fun v hp' => ∃ (D : List Draw) (i : Nat) (g : List O), v = .ref i ∧ hp' = hp ++ g ∧ hp'[i]? = some (.list (drs D)) ∧ hp.length ≤ i ∧ D.length ≤ 5 ∧ 0 < D.length ∧ ∀ p ∈ D, DrOk p) := by
  refine FV.fn L.fF (ns := ["script"]) (fun _ _ _ _ xs h => by obtain ⟨_, rfl⟩ := len1 h; rfl) rfl (by decide) (by decide +kernel) (by decide +kernel) fun Lo cd ρ₀ hρ => ?_
  refine XV.cons ?_
  refine XV.assign ?_
  refine EV.list ?_
  refine EVs.nil ⟨(show (0 : Nat) ≤ 1000 by decide), ?_⟩
  refine XV.st2 (loc' := [("script", .top a), ("draws", .ref hp.length)]) (hp' := hp ++ [.list (drs [])]) rfl rfl ?_
  refine XV.cons ?_
  refine XV.forS ?_
  refine EV.var rfl ⟨_, _, _, Src.base S.lst S.rel, fun i σ => ∃ D, DrI hp D σ, ⟨[], rfl, by simp, by simp, rfl⟩, fun _ _ _ => trivial, ?_, ?_⟩
  · intro ρ₁ hρ₁ i σ hi ⟨D, I⟩
    obtain ⟨x, hx⟩ := S.nums (vs.getD i .none) (by rw [List.getD_eq_getElem?_getD, List.getElem?_eq_getElem hi]; exact List.getElem_mem hi)
    rw [hx]
    refine OU1.name ?_
    have I := I.put (x := "x") (v := .int x) (by decide)
    refine XV.cons ?_
    refine XV.assign ?_
    refine EV.binop ?_
    refine EV.callB L.gAbs Boot.«abs» (by decide) ?_
    refine EVs.cons ?_
    refine EV.var lk_eq ?_
    refine EVs.nil ?_
    refine OVs.abs ?_
    refine EV.binop ?_
    refine EV.cint ?_
    refine EV.cint ?_
    refine OV2.pow_int (by decide) (by decide) (by decide) ?_
    refine OV2.mod_int (by decide) ?_
    have hr := Int.fmod_nonneg_of_pos (if x < 0 then -x else x) (b := (1080 : Int) ^ (8 : Int).toNat) (by decide)
    generalize (if x < 0 then -x else x).fmod ((1080 : Int) ^ (8 : Int).toNat) = r at hr ⊢
    have I := I.put (x := "rest") (v := .int r) (by decide)
    refine XV.cons ?_
    refine XV.whileB (fun n σ => ∃ D r, n + D.length = 5 ∧ 0 ≤ r ∧ DrI hp D σ ∧ at_ σ.loc "rest" = some (.int r) ∧ at_ σ.loc "x" = some (.int x)) (5 - D.length) ⟨D, r, by have := I.len; omega, hr, I, lk_eq, lk_ne lk_eq (by decide)⟩ ?_
    intro n σ₁ ⟨D₁, r₁, hn, hr₁, I₁, hrest, hx1⟩
    have hh := I₁.hp
    have hc1 : σ₁.hp[hp.length]? = some (.list (drs D₁)) := by rw [hh]; exact ap1
    refine TV.cmp ?_
    refine EV.callB L.gLen Boot.«len» (by decide) ?_
    refine EVs.cons ?_
    refine EV.var I₁.drw ?_
    refine EVs.nil ?_
    refine OVs.len_list hc1 (by rw [drs_len]; have := I₁.len; omega) ?_
    refine EV.cint ?_
    refine OV2.lt_int ⟨_, rfl, fun hlt => ?_, fun hlt => ?_⟩
    · have hlt : D₁.length < 5 := by have := of_decide_eq_true hlt; rw [drs_len] at this; omega
      refine XV.cons ?_
      refine XV.assign ?_
      refine EV.binop ?_
      refine EV.binop ?_
      refine EV.binop ?_
      refine EV.var hrest ?_
      refine EV.cint ?_
      refine OV2.fdiv_int (by decide) (PyProof.noPylong_of_log2 (by decide +kernel)) ?_
      refine EV.binop ?_
      refine EV.cint ?_
      refine EV.cint ?_
      refine OV2.pow_int (by decide) (by decide) (by decide) ?_
      refine OV2.mod_int (by decide) ?_
      have hq := Int.fmod_nonneg_of_pos (r₁.fdiv 1080) (b := (10 : Int) ^ (20 : Int).toNat) (by decide)
      have hq' := Int.fmod_lt_of_pos (r₁.fdiv 1080) (b := (10 : Int) ^ (20 : Int).toNat) (by decide)
      generalize (r₁.fdiv 1080).fmod ((10 : Int) ^ (20 : Int).toNat) = q at hq hq' ⊢
      replace hq' : q < 10 ^ 20 := hq'
      refine EV.callB L.gLen Boot.«len» (by decide) ?_
      refine EVs.cons ?_
      refine EV.var I₁.drw ?_
      refine EVs.nil ?_
      refine OVs.len_list hc1 (by rw [drs_len]; omega) ?_
      refine OV2.add_int ?_
      rw [drs_len]
      have I₁' := I₁.put (x := "number") (v := .int (q + (D₁.length : Nat))) (by decide)
      have h0 : 0 ≤ r₁.fmod 1080 := Int.fmod_nonneg_of_pos _ (by decide)
      have h34 : r₁.fmod 1080 < 1080 := Int.fmod_lt_of_pos _ (by decide)
      obtain ⟨z, hz⟩ : ∃ z : Nat, r₁.fmod 1080 = z := ⟨(r₁.fmod 1080).toNat, by omega⟩
      have hzz : ∃ y : Int, y.natAbs < 10 ^ 21 ∧ y = if x < 0 then -(q + (D₁.length : Nat)) else q + (D₁.length : Nat) := by
        refine ⟨_, ?_, rfl⟩
        have h5 : (q + (D₁.length : Nat)).natAbs < 10 ^ 21 := by omega
        split <;> omega
      obtain ⟨y, hy, ey⟩ := hzz
      refine XV.cons ?_
      refine XV.expr ?_
      refine EV.append ?_
      refine EV.var I₁'.drw ⟨⟨_, _, rfl, hc1⟩, ?_⟩
      refine EVs.cons ?_
      refine EV.tuple ?_
      refine EVs.cons ?_
      refine EV.binop ?_
      refine EV.var (lk_ne hrest (by decide)) ?_
      refine EV.cint ?_
      refine OV2.mod_int (by decide) ?_
      rw [hz]
      refine EVs.cons ?_
      refine EV.mono (Q := fun v σ' => v = .int y ∧ σ' = ⟨put "number" (.int (q + (D₁.length : Nat))) σ₁.loc, σ₁.hp⟩) ?_ ?_
      · refine EV.ifB ?_
        refine TV.cmp ?_
        refine EV.var (lk_ne hx1 (by decide)) ?_
        refine EV.cint ?_
        refine OV2.lt_int ⟨_, rfl, fun h => ?_, fun h => ?_⟩
        · have h := of_decide_eq_true h
          refine EV.unary ?_
          refine EV.var lk_eq ?_
          refine OV1.neg_int ?_
          rw [ey, if_pos h]; exact ⟨rfl, rfl⟩
        · have h := of_decide_eq_false h
          refine EV.var lk_eq ?_
          rw [ey, if_neg h]; exact ⟨rfl, rfl⟩
      rintro _ _ ⟨rfl, rfl⟩
      refine EVs.nil ⟨(show (2 : Nat) ≤ 1000 by decide), ?_⟩
      refine EVs.nil ?_
      refine OVs.append hc1 (by rw [drs_len]; omega) ?_
      have I₂ : DrI hp (D₁ ++ [(z, y)]) ⟨put "number" (.int (q + (D₁.length : Nat))) σ₁.loc, σ₁.hp.set hp.length (.list (drs D₁ ++ [drV (z, y)]))⟩ :=
        ⟨I₁'.drw, by simp; omega, fun p hp => by
          rcases List.mem_append.mp hp with hp | hp
          · exact I₁.ok p hp
          · rw [List.mem_singleton] at hp; subst hp; exact ⟨by omega, hy⟩, by show List.set _ _ _ = _; rw [hh, as1]; simp [drs]⟩
      refine XV.cons ?_
      refine XV.aug (lk_ne hrest (by decide)) ?_
      refine EV.cint ?_
      refine OV2.ifdiv_int (by decide) (PyProof.noPylong_of_log2 (by decide +kernel)) ?_
      have I₃ := I₂.put (x := "rest") (v := .int (r₁.fdiv 1080)) (by decide)
      refine XV.cons ?_
      refine XV.ifB ?_
      refine TV.cmp ?_
      refine EV.var lk_eq ?_
      refine EV.cint ?_
      refine OV2.eq_int ⟨_, rfl, fun h => ?_, fun h => ?_⟩
      · exact XV.cons (XV.brk (XV.nil ⟨_, I₃⟩))
      · exact XV.nil (XV.nil ⟨n - 1, by omega, _, _, by simp; omega, Int.fdiv_nonneg hr₁ (by decide), I₃, lk_eq, lk_ne (lk_ne hx1 (by decide)) (by decide)⟩)
    · exact XV.nil ⟨_, I₁⟩
  · intro σ ⟨D, I⟩
    have hh := I.hp
    refine XV.cons ?_
    refine XV.ret ?_
    refine EV.ifB ?_
    refine TV.cmp ?_
    refine EV.var I.drw ?_
    refine EV.list ?_
    refine EVs.nil ⟨(show (0 : Nat) ≤ 1000 by decide), ?_⟩
    have hn : (σ.hp ++ [O.list []])[σ.hp.length]? = some (.list []) := ap1
    refine OV2.ne_nil (vs := drs D) (by rw [hh]; exact app_get ap1) hn ⟨_, rfl, fun h => ?_, fun h => ?_⟩
    · refine EV.var I.drw ?_
      refine ⟨D, _, [.list (drs D), .list []], rfl, ?_, ?_, by omega, I.len, ?_, I.ok⟩
      · show σ.hp ++ [O.list []] = _
        rw [hh]; simp
      · show (σ.hp ++ [O.list []])[_]? = _
        rw [hh]; exact app_get ap1
      · cases D with
        | nil => cases h
        | cons _ _ => exact Nat.succ_pos _
    · refine EV.list ?_
      refine EVs.cons ?_
      refine EV.tuple ?_
      refine EVs.cons ?_
      refine EV.cint ?_
      refine EVs.cons ?_
      refine EV.cint ?_
      refine EVs.nil ⟨(show (2 : Nat) ≤ 1000 by decide), ?_⟩
      refine EVs.cons ?_
      refine EV.tuple ?_
      refine EVs.cons ?_
      refine EV.cint ?_
      refine EVs.cons ?_
      refine EV.unary ?_
      refine EV.cint ?_
      refine OV1.neg_int ?_
      refine EVs.nil ⟨(show (2 : Nat) ≤ 1000 by decide), ?_⟩
      refine EVs.nil ⟨(show (2 : Nat) ≤ 1000 by decide), ?_⟩
      refine ⟨[(587, 5), (1078, -4)], _, [.list (drs D), .list [], .list (drs [(587, 5), (1078, -4)])], rfl, ?_, ap1, ?_, by decide, by decide, ?_⟩
      · show σ.hp ++ [O.list []] ++ [_] = _
        rw [hh]; simp; rfl
      · show hp.length ≤ (σ.hp ++ [O.list []]).length
        rw [hh]; simp
      · intro p hp
        simp at hp
        rcases hp with rfl | rfl <;> exact ⟨by decide, by decide⟩
end
end Mine
namespace Mine
open PySem PySem.W PyProof.Rows PySem.SeqAt
noncomputable def digT (n : Nat) : List Nat := (Nat.toDigits 10 n).map Char.toNat
theorem digit_sign : ∀ d : Nat, d < 10 → (Nat.digitChar d).toNat = 48 + d := by decide
theorem digT_lt {n : Nat} (h : n < 10) : digT n = [48 + n] := by unfold digT; rw [Nat.toDigits_of_lt_base h]; simp [digit_sign n h]
theorem digT_ge {n : Nat} (h : 10 ≤ n) : digT n = digT (n / 10) ++ [48 + n % 10] := by
  unfold digT
  have hm : n % 10 < 10 := Nat.mod_lt n (by decide)
  rw [Nat.toDigits_eq_if (by decide) (n := n), if_neg (by omega), List.map_append]
  simp [digit_sign _ hm]
theorem digT_len : ∀ (k n : Nat), n < 10 ^ (k + 1) → (digT n).length ≤ k + 1
  | 0, n, h => by rw [digT_lt (by simpa using h)]; simp
  | k + 1, n, h => by
    by_cases hn : n < 10
    · rw [digT_lt hn]; simp
    · rw [digT_ge (by omega), List.length_append]
      have := digT_len k (n / 10) (by rw [Nat.div_lt_iff_lt_mul (by decide)]; rw [Nat.pow_succ] at h; exact h)
      simp; omega
noncomputable def digI (i : Int) : List Nat := txtOf (toString i)
theorem digI_nat (n : Nat) : digI n = digT n := KIN.signs_num n
theorem digI_neg (n : Nat) : digI (Int.negSucc n) = 45 :: digT (n + 1) := by
  have h := KIN.signs_num (n + 1)
  have e : ∀ s : String, txtOf s = s.toList.map Char.toNat := fun s => signs_ofString s
  show txtOf (toString (Int.negSucc n)) = _
  rw [e]
  show ("-" ++ Nat.repr (n + 1)).toList.map Char.toNat = _
  rw [String.toList_append, Nat.toList_repr]
  rfl
theorem digI_neg' {i : Int} (h : i < 0) : digI i = 45 :: digI (-i) := by
  obtain ⟨n, rfl⟩ : ∃ n, i = Int.negSucc n := by
    cases i with
    | ofNat n => simp at h; omega
    | negSucc n => exact ⟨n, rfl⟩
  rw [digI_neg, Int.neg_negSucc, digI_nat]
structure DigK (K : Frag) (aD : Addr) : Prop where
  g : nsIn K mainGlobals "_law_digits" = some (some (.ref aD))
  k : keepIn K (.ref aD) = true
  f : FnK K aD "_law_digits" (stmt 4)
section
variable {c : Cx} {aD : Addr}
theorem lawDigitsN {hp : List O} {n : Nat} (D : DigK c.K aD) (hl : (digT n).length ≤ 1000) : FV c 2 (.top aD) [.int n] hp (fun v hp' => v = .str (digT n) ∧ hp' = hp) := by
  refine FV.fn D.f (ns := ["number"]) (fun _ _ _ _ xs h => by obtain ⟨_, rfl⟩ := len1 h; rfl) rfl (by decide) (by decide +kernel) (by decide +kernel) fun Lo cd ρ₀ hρ => ?_
  refine XV.cons ?_
  refine XV.ifB ?_
  refine TV.cmp ?_
  refine EV.var rfl ?_
  refine EV.cint ?_
  refine OV2.lt_int ⟨_, rfl, fun h => absurd (of_decide_eq_true h) (by omega), fun _ => ?_⟩
  refine XV.nil ?_
  have dig : ∀ m : Nat, ([48, 49, 50, 51, 52, 53, 54, 55, 56, 57] : List Nat)[((m : Int).fmod 10).toNat]? = some (48 + m % 10) := fun m => by
    have e : ((m : Int).fmod 10).toNat = m % 10 := by rw [Int.fmod_eq_emod_of_nonneg _ (by decide)]; omega
    rw [e]
    have := Nat.mod_lt m (show 0 < 10 by decide)
    generalize m % 10 = r at this
    match r, this with
    | 0, _ | 1, _ | 2, _ | 3, _ | 4, _ | 5, _ | 6, _ | 7, _ | 8, _ | 9, _ => rfl
    | r + 10, h => exact absurd h (by omega)
  have h0 : ∀ m : Nat, 0 ≤ (m : Int).fmod 10 := fun m => Int.fmod_nonneg_of_pos _ (by decide)
  refine XV.cons ?_
  refine XV.assign ?_
  refine EV.sub ?_
  refine EV.cstr (l := [48, 49, 50, 51, 52, 53, 54, 55, 56, 57]) ?_
  refine EV.binop ?_
  refine EV.var rfl ?_
  refine EV.cint ?_
  refine OV2.mod_int (by decide) ?_
  refine OV2.itemS (h0 n) (dig n) (by decide) ?_
  refine XV.cons ?_
  refine XV.whileB (fun m σ => ∃ t, at_ σ.loc "number" = some (.int (m : Nat)) ∧ at_ σ.loc "text" = some (.str t) ∧ digT n = (if m < 10 then [] else digT (m / 10)) ++ t ∧ σ.hp = hp) n ⟨[48 + n % 10], rfl, rfl, ?_, rfl⟩ ?_
  · by_cases hn : n < 10
    · rw [if_pos hn, digT_lt hn, Nat.mod_eq_of_lt hn]; rfl
    · rw [if_neg hn, digT_ge (by omega)]
  · intro m σ ⟨t, e1, e2, e3, e4⟩
    refine TV.cmp ?_
    refine EV.var e1 ?_
    refine EV.cint ?_
    refine OV2.gt_int ⟨_, rfl, fun h => ?_, fun h => ?_⟩
    · have h := of_decide_eq_true h
      have hm : 10 ≤ m := by omega
      rw [if_neg (by omega)] at e3
      have em : (m : Int).fdiv 10 = ((m / 10 : Nat) : Int) := by rw [Int.fdiv_eq_ediv_of_nonneg _ (by decide)]; omega
      refine XV.cons ?_
      refine XV.aug e1 ?_
      refine EV.cint ?_
      refine OV2.ifdiv_int (by decide) (PyProof.noPylong_of_log2 (by decide +kernel)) ?_
      rw [em]
      refine XV.cons ?_
      refine XV.assign ?_
      refine EV.binop ?_
      refine EV.sub ?_
      refine EV.cstr (l := [48, 49, 50, 51, 52, 53, 54, 55, 56, 57]) ?_
      refine EV.binop ?_
      refine EV.var lk_eq ?_
      refine EV.cint ?_
      refine OV2.mod_int (by decide) ?_
      refine OV2.itemS (h0 (m / 10)) (dig (m / 10)) (by decide) ?_
      refine EV.var (lk_ne e2 (by decide)) ?_
      have ht : t.length ≤ 1000 := by rw [e3, List.length_append] at hl; omega
      refine OV2.add_str (Nat.le_trans (show 1 + t.length ≤ 2000 by omega) (by decide)) ?_
      refine XV.nil ⟨m / 10, by omega, _, lk_ne lk_eq (by decide), lk_eq, ?_, e4⟩
      rw [e3]
      by_cases hd : m / 10 < 10
      · rw [if_pos hd, digT_lt hd, Nat.mod_eq_of_lt hd]; rfl
      · rw [if_neg hd, digT_ge (n := m / 10) (by omega), List.append_assoc]
    · have h := of_decide_eq_false h
      rw [if_pos (by omega)] at e3
      refine XV.cons ?_
      refine XV.ret ?_
      refine EV.var e2 ?_
      exact ⟨by rw [e3]; rfl, e4⟩
theorem lawDigits {hp : List O} {i : Int} (D : DigK c.K aD) (hl : (digT i.natAbs).length ≤ 1000) : FV c 3 (.top aD) [.int i] hp (fun v hp' => v = .str (digI i) ∧ hp' = hp) := by
  by_cases hi : i < 0
  · refine FV.fn D.f (ns := ["number"]) (fun _ _ _ _ xs h => by obtain ⟨_, rfl⟩ := len1 h; rfl) rfl (by decide) (by decide +kernel) (by decide +kernel) fun Lo cd ρ₀ hρ => ?_
    obtain ⟨n, hn⟩ : ∃ n : Nat, -i = n := ⟨(-i).toNat, by omega⟩
    have en : i.natAbs = n := by omega
    refine XV.cons ?_
    refine XV.ifB ?_
    refine TV.cmp ?_
    refine EV.var rfl ?_
    refine EV.cint ?_
    refine OV2.lt_int ⟨_, rfl, fun _ => ?_, fun h => absurd (of_decide_eq_false h) (by omega)⟩
    refine XV.cons ?_
    refine XV.ret ?_
    refine EV.binop ?_
    refine EV.cstr (l := [45]) ?_
    refine EV.call 2 D.g D.k ?_
    refine EVs.cons ?_
    refine EV.unary ?_
    refine EV.var rfl ?_
    refine OV1.neg_int ?_
    refine EVs.nil ?_
    rw [hn]
    refine (lawDigitsN D (by rw [← en]; exact hl)).mono fun v hp' ⟨e1, e2⟩ => ?_
    subst e1; subst e2
    refine OV2.add_str (Nat.le_trans (show 1 + (digT n).length ≤ 2000 by rw [← en]; omega) (by decide)) ?_
    exact ⟨by rw [digI_neg' hi, hn, digI_nat]; rfl, rfl⟩
  · obtain ⟨n, rfl⟩ : ∃ n : Nat, i = n := ⟨i.toNat, by omega⟩
    exact ((lawDigitsN D hl).le (by decide)).mono fun v hp' ⟨e1, e2⟩ => ⟨by rw [e1, digI_nat]; rfl, e2⟩
end
end Mine
namespace Mine
open PySem PySem.W PyProof.Rows PySem.SeqAt
inductive Fld where
  | txt (l : List Nat)
  | nul
  | num (i : Int)
  | pair (i : Int)
  | bool (b : Bool)
noncomputable def Fld.v : Fld → V
  | .txt l => .str l
  | .nul => .none
  | .num i => .int i
  | .pair i => .tup [.int i, .int (-i)]
  | .bool b => .bool b
noncomputable def Fld.w : Fld → List Nat
  | .txt l => l
  | .nul => [78, 111, 110, 101]
  | .num i => digI i
  | .pair i => [40] ++ digI i ++ [44, 32] ++ digI (-i) ++ [41]
  | .bool b => if b then [84, 114, 117, 101] else [70, 97, 108, 115, 101]
noncomputable def Fld.t (F : Fld) : V := .tup [F.v, .str F.w]
noncomputable def Fld.ok : Fld → Prop
  | .txt l => l.length ≤ 14
  | .nul => True
  | .num i => i.natAbs < 10 ^ 22
  | .pair i => i.natAbs < 10 ^ 22
  | .bool _ => True
structure FldK (K : Frag) (aF : Addr) : Prop where
  g : nsIn K mainGlobals "_law_field" = some (some (.ref aF))
  k : keepIn K (.ref aF) = true
  f : FnK K aF "_law_field" (stmt 5)
noncomputable abbrev pieces : List (List Nat) := [[110], [37, 115], [32, 40], [37], [44, 32, 108, 105, 110, 101, 32], [41], [10], [92]]
theorem piece_at {r : Int} (h0 : 0 ≤ r) (h : r < 8) : ∃ l, (pieces.map V.str)[r.toNat]? = some (.str l) ∧ l.length ≤ 7 := by
  obtain ⟨n, rfl⟩ := Int.eq_ofNat_of_zero_le h0
  have h : n < 8 := by omega
  match n, h with
  | 0, _ | 1, _ | 2, _ | 3, _ | 4, _ | 5, _ | 6, _ | 7, _ => exact ⟨_, rfl, by decide⟩
  | n + 8, h => exact absurd h (by omega)
theorem digI_len {i : Int} (h : i.natAbs < 10 ^ 22) : (digI i).length ≤ 23 := by
  have hl := digT_len 21 _ h
  by_cases hi : i < 0
  · rw [digI_neg' hi]
    obtain ⟨n, hn⟩ : ∃ n : Nat, -i = n := ⟨(-i).toNat, by omega⟩
    have en : i.natAbs = n := by omega
    rw [hn, digI_nat, ← en]; simp; omega
  · obtain ⟨n, rfl⟩ : ∃ n : Nat, i = n := ⟨i.toNat, by omega⟩
    rw [digI_nat]
    have : (digT n).length ≤ 22 := hl
    omega
section
variable {c : Cx} {aD aF : Addr}
theorem lawField {hp : List O} {k n : Int} (D : DigK c.K aD) (S : FldK c.K aF) (hn : n.natAbs < 10 ^ 22) :
    FV c 4 (.top aF) [.int k, .int n] hp (fun v hp' => ∃ F g, v = Fld.t F ∧ F.ok ∧ hp' = hp ++ g) := by
  refine FV.fn S.f (ns := ["kind", "number"]) (fun _ _ _ _ xs h => by obtain ⟨_, _, rfl⟩ := len2 h; rfl) rfl (by decide) (by decide +kernel) (by decide +kernel) fun Lo cd ρ₀ hρ => ?_
  have zs : ∀ n, n ≤ 100000 → n ≤ sizeLine := fun n hn => Nat.le_trans hn (by decide)
  have dl : ∀ m : Int, m.natAbs < 10 ^ 22 → (digT m.natAbs).length ≤ 1000 := fun m hm => Nat.le_trans (digT_len 21 _ hm) (by decide)
  refine XV.cons ?_
  refine XV.assign ?_
  refine EV.list ?_
  refine EVs.cons ?_
  refine EV.cstr (l := [110]) ?_
  refine EVs.cons ?_
  refine EV.cstr (l := [37, 115]) ?_
  refine EVs.cons ?_
  refine EV.cstr (l := [32, 40]) ?_
  refine EVs.cons ?_
  refine EV.cstr (l := [37]) ?_
  refine EVs.cons ?_
  refine EV.cstr (l := [44, 32, 108, 105, 110, 101, 32]) ?_
  refine EVs.cons ?_
  refine EV.cstr (l := [41]) ?_
  refine EVs.cons ?_
  refine EV.cstr (l := [10]) ?_
  refine EVs.cons ?_
  refine EV.cstr (l := [92]) ?_
  refine EVs.nil ⟨(show (8 : Nat) ≤ 1000 by decide), ?_⟩
  refine XV.st2 (loc' := [("kind", .int k), ("number", .int n), ("pieces", .ref hp.length)]) (hp' := hp ++ [.list (pieces.map V.str)]) rfl rfl ?_
  refine XV.cons ?_
  refine XV.ifB ?_
  refine TV.cmp ?_
  refine EV.var rfl ?_
  refine EV.cint ?_
  refine OV2.lt_int ⟨_, rfl, fun _ => ?_, fun _ => ?_⟩
  · obtain ⟨l1, e1, h1⟩ := piece_at (r := n.fmod 8) (Int.fmod_nonneg_of_pos _ (by decide)) (Int.fmod_lt_of_pos _ (by decide))
    obtain ⟨l2, e2, h2⟩ := piece_at (r := (n.fdiv 8).fmod 8) (Int.fmod_nonneg_of_pos _ (by decide)) (Int.fmod_lt_of_pos _ (by decide))
    refine XV.cons ?_
    refine XV.assign ?_
    refine EV.binop ?_
    refine EV.sub ?_
    refine EV.var rfl ?_
    refine EV.binop ?_
    refine EV.var rfl ?_
    refine EV.cint ?_
    refine OV2.mod_int (by decide) ?_
    refine OV2.item (vs := pieces.map V.str) ga (Int.fmod_nonneg_of_pos _ (by decide)) e1 (by decide) ?_
    refine EV.sub ?_
    refine EV.var rfl ?_
    refine EV.binop ?_
    refine EV.binop ?_
    refine EV.var rfl ?_
    refine EV.cint ?_
    refine OV2.fdiv_int (by decide) (PyProof.noPylong_of_log2 (by decide +kernel)) ?_
    refine EV.cint ?_
    refine OV2.mod_int (by decide) ?_
    refine OV2.item (vs := pieces.map V.str) ga (Int.fmod_nonneg_of_pos _ (by decide)) e2 (by decide) ?_
    refine OV2.add_str (zs _ (by omega)) ?_
    refine XV.cons ?_
    refine XV.ret ?_
    refine EV.tuple ?_
    refine EVs.cons ?_
    refine EV.var rfl ?_
    refine EVs.cons ?_
    refine EV.var rfl ?_
    refine EVs.nil ⟨(show (2 : Nat) ≤ 1000 by decide), ?_⟩
    exact ⟨.txt (l1 ++ l2), _, rfl, by show (l1 ++ l2).length ≤ 14; rw [List.length_append]; omega, rfl⟩
  refine XV.nil ?_
  refine XV.cons ?_
  refine XV.ifB ?_
  refine TV.cmp ?_
  refine EV.var rfl ?_
  refine EV.cint ?_
  refine OV2.eq_int ⟨_, rfl, fun _ => ?_, fun _ => ?_⟩
  · refine XV.cons ?_
    refine XV.ret ?_
    refine EV.tuple ?_
    refine EVs.cons ?_
    refine EV.cnone ?_
    refine EVs.cons ?_
    refine EV.cstr (l := [78, 111, 110, 101]) ?_
    refine EVs.nil ⟨(show (2 : Nat) ≤ 1000 by decide), ?_⟩
    exact ⟨.nul, _, rfl, trivial, rfl⟩
  refine XV.nil ?_
  refine XV.cons ?_
  refine XV.ifB ?_
  refine TV.cmp ?_
  refine EV.var rfl ?_
  refine EV.cint ?_
  refine OV2.eq_int ⟨_, rfl, fun _ => ?_, fun _ => ?_⟩
  · refine XV.cons ?_
    refine XV.ret ?_
    refine EV.tuple ?_
    refine EVs.cons ?_
    refine EV.var rfl ?_
    refine EVs.cons ?_
    refine EV.call 3 D.g D.k ?_
    refine EVs.cons ?_
    refine EV.var rfl ?_
    refine EVs.nil ?_
    refine (lawDigits D (dl n hn)).mono fun v hp' ⟨e1, e2⟩ => ?_
    subst e1; subst e2
    refine EVs.nil ⟨(show (2 : Nat) ≤ 1000 by decide), ?_⟩
    exact ⟨.num n, _, rfl, hn, rfl⟩
  refine XV.nil ?_
  refine XV.cons ?_
  refine XV.ifB ?_
  refine TV.cmp ?_
  refine EV.var rfl ?_
  refine EV.cint ?_
  refine OV2.eq_int ⟨_, rfl, fun _ => ?_, fun _ => ?_⟩
  · have hm : (-n).natAbs < 10 ^ 22 := by omega
    have z1 := digI_len hn
    have z2 := digI_len hm
    refine XV.cons ?_
    refine XV.ret ?_
    refine EV.tuple ?_
    refine EVs.cons ?_
    refine EV.tuple ?_
    refine EVs.cons ?_
    refine EV.var rfl ?_
    refine EVs.cons ?_
    refine EV.unary ?_
    refine EV.var rfl ?_
    refine OV1.neg_int ?_
    refine EVs.nil ⟨(show (2 : Nat) ≤ 1000 by decide), ?_⟩
    refine EVs.cons ?_
    refine EV.binop ?_
    refine EV.binop ?_
    refine EV.binop ?_
    refine EV.binop ?_
    refine EV.cstr (l := [40]) ?_
    refine EV.call 3 D.g D.k ?_
    refine EVs.cons ?_
    refine EV.var rfl ?_
    refine EVs.nil ?_
    refine (lawDigits D (dl n hn)).mono fun v hp' ⟨e1, e2⟩ => ?_
    subst e1; subst e2
    refine OV2.add_str (zs _ (by simp; omega)) ?_
    refine EV.cstr (l := [44, 32]) ?_
    refine OV2.add_str (zs _ (by simp; omega)) ?_
    refine EV.call 3 D.g D.k ?_
    refine EVs.cons ?_
    refine EV.unary ?_
    refine EV.var rfl ?_
    refine OV1.neg_int ?_
    refine EVs.nil ?_
    refine (lawDigits D (dl (-n) hm)).mono fun v hp' ⟨e1, e2⟩ => ?_
    subst e1; subst e2
    refine OV2.add_str (zs _ (by simp; omega)) ?_
    refine EV.cstr (l := [41]) ?_
    refine OV2.add_str (zs _ (by simp; omega)) ?_
    refine EVs.nil ⟨(show (2 : Nat) ≤ 1000 by decide), ?_⟩
    exact ⟨.pair n, _, rfl, hn, rfl⟩
  refine XV.nil ?_
  refine XV.cons ?_
  refine XV.ret ?_
  refine EV.tuple ?_
  refine EVs.cons ?_
  refine EV.cmp ?_
  refine EV.binop ?_
  refine EV.var rfl ?_
  refine EV.cint ?_
  refine OV2.mod_int (by decide) ?_
  refine EV.cint ?_
  refine OV2.eq_int ?_
  refine EVs.cons ?_
  refine EV.ifB ?_
  refine TV.cmp ?_
  refine EV.binop ?_
  refine EV.var rfl ?_
  refine EV.cint ?_
  refine OV2.mod_int (by decide) ?_
  refine EV.cint ?_
  refine OV2.eq_int ⟨_, rfl, fun h => ?_, fun h => ?_⟩
  · refine EV.cstr (l := [84, 114, 117, 101]) ?_
    refine EVs.nil ⟨(show (2 : Nat) ≤ 1000 by decide), ?_⟩
    exact ⟨.bool true, _, by rw [h]; rfl, trivial, rfl⟩
  · refine EV.cstr (l := [70, 97, 108, 115, 101]) ?_
    refine EVs.nil ⟨(show (2 : Nat) ≤ 1000 by decide), ?_⟩
    exact ⟨.bool false, _, by rw [h]; rfl, trivial, rfl⟩
end
end Mine
namespace Mine
open PySem PySem.W PyProof.Rows PySem.SeqAt
theorem pair_words (i j : Int) : (PyData.tuple [.int i, .int j]).shown.cps.toList = [40] ++ digI i ++ [44, 32] ++ digI j ++ [41] := by
  show ((((⟨#[40]⟩ : Str) ++ (Str.ofString (toString i) ++ (⟨#[44, 32]⟩ : Str) ++ Str.ofString (toString j))) ++ (⟨#[41]⟩ : Str))).cps.toList = _
  show (((#[40] ++ ((Str.ofString (toString i)).cps ++ #[44, 32] ++ (Str.ofString (toString j)).cps)) ++ #[41])).toList = _
  simp [digI, txtOf]
theorem log_small {n : Nat} (h : n < 10 ^ 22) : n.log2 < 1920 := by
  by_cases h0 : n = 0
  · subst h0; decide
  · have : n.log2 < 80 := (Nat.log2_lt h0).mpr (Nat.lt_of_lt_of_le h (by decide))
    omega
theorem Fld.len {F : Fld} (h : F.ok) : F.w.length ≤ 60 := by
  cases F with
  | txt l => exact Nat.le_trans h (by decide)
  | nul => decide
  | num i => exact Nat.le_trans (digI_len h) (by decide)
  | pair i =>
    have h : i.natAbs < 10 ^ 22 := h
    have z1 := digI_len h
    have z2 := digI_len (i := -i) (by omega)
    show ([40] ++ digI i ++ [44, 32] ++ digI (-i) ++ [41]).length ≤ 60
    simp; omega
  | bool b => cases b <;> decide
theorem Fld.handed (F : Fld) : F.v.handed = true := by cases F <;> rfl
theorem like_fld {hp : List O} {n : Nat} (F : Fld) : Like hp (n + 1) F.v F.v := by
  cases F with
  | txt l => exact .str
  | nul => exact .none
  | num i => exact .int
  | pair i => exact .tup (.cons .int (.cons .int .nil))
  | bool b => exact .bool
section
variable {c : Cx} {C aI aD' aS : Addr}
theorem showFld {hp : List O} {k : Nat} {F : Fld} (h : F.ok) : Showable c C aS hp k F.v F.w := by
  cases F with
  | txt l => exact .str rfl
  | nul => exact .none rfl rfl
  | num i => exact .int i rfl (log_small h) rfl
  | pair i =>
    have h : i.natAbs < 10 ^ 22 := h
    refine .pair i (-i) rfl ?_ (pair_words i (-i)).symm
    have h1 := log_small h
    have h2 := log_small (n := (-i).natAbs) (by omega)
    simp only [PyData.showable, PyData.showableAll, Bool.and_true, Bool.and_eq_true, decide_eq_true_eq]
    exact ⟨h1, h2⟩
  | bool b => cases b <;> exact .bool _ rfl rfl
theorem strFld {hp : List O} {M F L : Fld} {e n : Nat} {a : V} {b : Bool} (Z : ErrK c.K C aI aD' aS) (h1 : hp[e]? = some (.exc C (some n) a b)) (h2 : hp[n]? = some (ens F.v L.v M.v)) (hM : M.ok) (hF : F.ok) (hL : L.ok) :
    FV c 1 (.top aS) [.ref e] hp (fun v hp' => v = .str (wordsOf M.w F.w L.w) ∧ hp' = hp) :=
  strErr Z h1 h2 (showFld hM) (showFld hF) (showFld hL) (by have := Fld.len hM; have := Fld.len hF; have := Fld.len hL; simp only [wordsOf, List.length_append, List.length_cons, List.length_nil]; omega) M.handed F.handed L.handed
noncomputable abbrev cSc : Scope := { kind := .function, names := [(Str.ofString ".0", .local), (Str.ofString "value", .local), (Str.ofString "words", .local)], isGenerator := false, isCoroutine := false, more := [] }
theorem compFields {d : Nat} {fx : Fx} {p1 p2 p3 p4 : Pos} {x : Str} {sel : Fld → V} {F0 F1 F2 : Fld} {l : Nat} {H : List O} (hl : H[l]? = some (.list [F0.t, F1.t, F2.t])) (hsel : ∀ F : Fld, ([("value", F.v), ("words", V.str F.w)] : List (Str × V)).lookup x = some (sel F)) (hx : cSc.names.lookup x = some .local) (hdb : (x == ("__debug__" : Str)) = false) :
    CompOkT 0 c d fx (.Tuple [.Name "value" p1, .Name "words" p2] 0 p3) [] (.Name x p4) cSc [] [F0.t, F1.t, F2.t].length (fun i => [F0.t, F1.t, F2.t].getD i .none) (fun σ => σ.hp[l]? = some (.list [F0.t, F1.t, F2.t]))
      (fun m acc hp' => acc = ([F0, F1, F2].take m).map sel ∧ hp' = H ++ [.list acc]) H.length := by
  refine ⟨?_, ?_⟩
  · rintro m acc hp' ⟨rfl, rfl⟩
    exact ⟨ga, fun _ => app_get hl⟩
  · rintro C' clos ρ₁ m acc hp' hm ⟨rfl, rfl⟩
    obtain ⟨F, e1, e2⟩ : ∃ F : Fld, [F0.t, F1.t, F2.t].getD m .none = .tup [F.v, .str F.w] ∧ [F0, F1, F2].take (m + 1) = [F0, F1, F2].take m ++ [F] := by
      match m, hm with
      | 0, _ => exact ⟨F0, rfl, rfl⟩
      | 1, _ => exact ⟨F1, rfl, rfl⟩
      | 2, _ => exact ⟨F2, rfl, rfl⟩
    show OU1 _ _ _ _ ([F0.t, F1.t, F2.t].getD m .none) _ _
    rw [e1]
    refine OU1.tuple rfl ?_
    show OU1 _ _ _ _ _ _ _
    refine OU1.name ?_ (lookup_relabel_local rfl)
    show OU1 _ _ _ _ _ _ _
    refine OU1.name ?_ (lookup_relabel_local rfl)
    show EV _ _ _ _ _ _
    refine EV.var (hsel F) ?_ (lookup_relabel_local hx) hdb
    refine ⟨ga, by simp; omega, by rw [e2, List.map_append]; rfl, sa⟩
end
end Mine
namespace Mine
open PySem PySem.W PyProof.Rows PySem.SeqAt
structure WhlK (K : Frag) (aW : Addr) : Prop where
  g : nsIn K mainGlobals "_law_whole" = some (some (.ref aW))
  k : keepIn K (.ref aW) = true
  f : FnK K aW "_law_whole" (stmt 6)
  gStr : nsIn K mainGlobals "str" = some none
section
variable {c : Cx} {C aI aD' aS aW : Addr}
theorem lawWhole {hp : List O} {M F L : Fld} {e n l : Nat} {first : V} {b : Bool} (Z : ErrK c.K C aI aD' aS) (W : WhlK c.K aW) (h1 : hp[e]? = some (.exc C (some n) (.tup [first]) b)) (h2 : hp[n]? = some (ens F.v L.v M.v)) (h3 : hp[l]? = some (.list [M.t, F.t, L.t]))
    (hM : M.ok) (hF : F.ok) (hL : L.ok) (hf : ∀ hp n, Like hp (n + 1) first first) : FV c 6 (.top aW) [.ref e, .ref l, first] hp (fun v hp' => v = .bool true ∧ ∃ g, hp' = hp ++ g) := by
  refine FV.fn W.f (ns := ["error", "fields", "first"]) (fun _ _ _ _ xs h => by obtain ⟨_, _, _, rfl⟩ := len3 h; rfl) rfl (by decide) (by decide +kernel) (by decide +kernel) fun Lo cd ρ₀ hρ => ?_
  have zs : ∀ n, n ≤ 100000 → n ≤ sizeLine := fun n hn => Nat.le_trans hn (by decide)
  have lM := Fld.len hM
  have lF := Fld.len hF
  have lL := Fld.len hL
  refine XV.cons ?_
  refine XV.assignCompT (cl' := []) (by rfl) ?_
  refine EV.var rfl ?_
  refine ⟨_, _, _, _, SrcT.tupList (vs := [M.t, F.t, L.t]) h3, ⟨rfl, rfl⟩, compFields (sel := Fld.v) h3 (fun _ => rfl) rfl rfl, ?_⟩
  rintro acc hp' ⟨rfl, rfl⟩
  refine OU1.name ?_
  refine XV.cons ?_
  refine XV.assign ?_
  refine EV.compT (cl' := []) (by rfl) ?_
  refine EV.var rfl ?_
  have h3' : (hp ++ [O.list [M.v, F.v, L.v]])[l]? = some (.list [M.t, F.t, L.t]) := app_get h3
  refine ⟨_, _, _, _, SrcT.tupList (vs := [M.t, F.t, L.t]) h3', ⟨rfl, rfl⟩, compFields (sel := fun F => .str F.w) h3' (fun _ => rfl) rfl rfl, ?_⟩
  rintro acc hp' ⟨rfl, rfl⟩
  obtain ⟨H, hH⟩ : ∃ H, H = hp ++ [O.list [M.v, F.v, L.v]] ++ [O.list [.str M.w, .str F.w, .str L.w]] := ⟨_, rfl⟩
  have hv : H[hp.length]? = some (.list [M.v, F.v, L.v]) := by rw [hH]; exact app_get ga
  have hw : H[(hp ++ [O.list [M.v, F.v, L.v]]).length]? = some (.list [.str M.w, .str F.w, .str L.w]) := by rw [hH]; exact ga
  have h1' : H[e]? = some (.exc C (some n) (.tup [first]) b) := by rw [hH]; exact app_get (app_get h1)
  have h2' : H[n]? = some (ens F.v L.v M.v) := by rw [hH]; exact app_get (app_get h2)
  have hg : ∃ g, H = hp ++ g := ⟨_, by rw [hH, List.append_assoc]⟩
  obtain ⟨w, hw'⟩ : ∃ w, w = (hp ++ [O.list [M.v, F.v, L.v]]).length := ⟨_, rfl⟩
  rw [← hw'] at hw
  refine XV.st2 (loc' := [("error", .ref e), ("fields", .ref l), ("first", first), ("values", .ref hp.length), ("words", .ref w)]) (hp' := H) (by rw [hw']; rfl) (by rw [hH]; rfl) ?_
  clear hH
  refine XV.cons ?_
  refine XV.assign ?_
  refine EV.binop ?_
  refine EV.binop ?_
  refine EV.binop ?_
  refine EV.binop ?_
  refine EV.binop ?_
  refine EV.sub ?_
  refine EV.var rfl ?_
  refine EV.cint ?_
  refine OV2.item hw (by decide) (v := .str M.w) rfl (show (3 : Nat) < 2 ^ 62 by decide) ?_
  refine EV.cstr (l := [32, 40]) ?_
  refine OV2.add_str (zs _ (by simp; omega)) ?_
  refine EV.sub ?_
  refine EV.var rfl ?_
  refine EV.cint ?_
  refine OV2.item hw (by decide) (v := .str F.w) rfl (show (3 : Nat) < 2 ^ 62 by decide) ?_
  refine OV2.add_str (zs _ (by simp; omega)) ?_
  refine EV.cstr (l := [44, 32, 108, 105, 110, 101, 32]) ?_
  refine OV2.add_str (zs _ (by simp; omega)) ?_
  refine EV.sub ?_
  refine EV.var rfl ?_
  refine EV.cint ?_
  refine OV2.item hw (by decide) (v := .str L.w) rfl (show (3 : Nat) < 2 ^ 62 by decide) ?_
  refine OV2.add_str (zs _ (by simp; omega)) ?_
  refine EV.cstr (l := [41]) ?_
  refine OV2.add_str (zs _ (by simp; omega)) ?_
  refine XV.st2 (loc' := [("error", .ref e), ("fields", .ref l), ("first", first), ("values", .ref hp.length), ("words", .ref w), ("due", .str (wordsOf M.w F.w L.w))]) (hp' := H) rfl rfl ?_
  refine XV.cons ?_
  refine XV.assign ?_
  refine EV.list ?_
  refine EVs.cons ?_
  refine EV.attrE ?_
  refine EV.var rfl ?_
  refine ⟨e, C, n, _, _, _, M.v, rfl, h1', h2', rfl, Z.cls, Z.a3, M.handed, ?_⟩
  refine EVs.cons ?_
  refine EV.attrE ?_
  refine EV.var rfl ?_
  refine ⟨e, C, n, _, _, _, F.v, rfl, h1', h2', rfl, Z.cls, Z.a1, F.handed, ?_⟩
  refine EVs.cons ?_
  refine EV.attrE ?_
  refine EV.var rfl ?_
  refine ⟨e, C, n, _, _, _, L.v, rfl, h1', h2', rfl, Z.cls, Z.a2, L.handed, ?_⟩
  refine EVs.nil ⟨(show (3 : Nat) ≤ 1000 by decide), ?_⟩
  have ht : (H ++ [O.list [M.v, F.v, L.v]])[H.length]? = some (.list [M.v, F.v, L.v]) := ga
  have hv' : (H ++ [O.list [M.v, F.v, L.v]])[hp.length]? = some (.list [M.v, F.v, L.v]) := app_get hv
  have h1'' := app_get (ext := [O.list [M.v, F.v, L.v]]) h1'
  have h2'' := app_get (ext := [O.list [M.v, F.v, L.v]]) h2'
  have hg' : ∃ g, H ++ [O.list [M.v, F.v, L.v]] = hp ++ g := by obtain ⟨g, rfl⟩ := hg; exact ⟨_, List.append_assoc _ _ _⟩
  obtain ⟨t, ht'⟩ : ∃ t, t = H.length := ⟨_, rfl⟩
  rw [← ht'] at ht
  obtain ⟨Y, hY⟩ : ∃ Y, Y = H ++ [O.list [M.v, F.v, L.v]] := ⟨_, rfl⟩
  rw [← hY] at ht hv' h1'' h2'' hg'
  refine XV.st2 (loc' := [("error", .ref e), ("fields", .ref l), ("first", first), ("values", .ref hp.length), ("words", .ref w), ("due", .str (wordsOf M.w F.w L.w)), ("told", .ref t)]) (hp' := Y) (by rw [ht']; rfl) (by rw [hY]) ?_
  refine XV.cons ?_
  refine XV.ret ?_
  refine EV.cmp ?_
  refine EV.tuple ?_
  refine EVs.cons ?_
  refine EV.var rfl ?_
  refine EVs.cons ?_
  refine EV.argsE ?_
  refine EV.var rfl ?_
  refine ⟨e, C, n, _, _, _, rfl, h1'', h2'', Z.cls, Z.ar, ?_⟩
  refine EVs.cons ?_
  refine EV.callT W.gStr Boot.«str» (by decide) ?_
  refine EVs.cons ?_
  refine EV.var rfl ?_
  refine EVs.nil ?_
  refine OVs.strE 1 h1'' h2'' Z.st Z.tS ((strFld Z h1'' h2'' hM hF hL).mono fun v hp' ⟨q1, q2⟩ => ?_) (by decide)
  replace q2 := q2.symm
  subst q1; subst q2
  refine ⟨_, rfl, zs _ (by simp only [wordsOf, List.length_append, List.length_cons, List.length_nil]; omega), ?_⟩
  refine EVs.nil ⟨(show (3 : Nat) ≤ 1000 by decide), ?_⟩
  refine EV.tuple ?_
  refine EVs.cons ?_
  refine EV.var rfl ?_
  refine EVs.cons ?_
  refine EV.tuple ?_
  refine EVs.cons ?_
  refine EV.var rfl ?_
  refine EVs.nil ⟨(show (1 : Nat) ≤ 1000 by decide), ?_⟩
  refine EVs.cons ?_
  refine EV.var rfl ?_
  refine EVs.nil ⟨(show (3 : Nat) ≤ 1000 by decide), ?_⟩
  refine OV2.eqT_like (n := 3) (by decide) (.cons (.list ht hv' (.cons (like_fld M) (.cons (like_fld F) (.cons (like_fld L) .nil)))) (.cons (.tup (n := 2) (.cons (hf _ 1) .nil)) (.cons .str .nil))) ?_
  exact ⟨rfl, hg'⟩
end
end Mine
namespace Mine
open PySem PySem.W PyProof.Rows PySem.SeqAt
structure Row where
  e : Nat
  n : Nat
  j : Nat
  M : Fld
  F : Fld
  L : Fld
noncomputable def rowV (r : Row) : V := .tup [.ref r.e, .ref r.j]
noncomputable def Row.ok (r : Row) : Prop := r.M.ok ∧ r.F.ok ∧ r.L.ok
structure RowAt (C : Addr) (hp : List O) (r cur : Row) (b : Bool) : Prop where
  exc : hp[r.e]? = some (.exc C (some r.n) (.tup [r.M.v]) b)
  ns : hp[r.n]? = some (ens cur.F.v cur.L.v cur.M.v)
  lst : hp[r.j]? = some (.list [r.M.t, r.F.t, r.L.t])
  okr : r.ok
  okc : cur.ok
structure LawS (C : Addr) (hp : List O) (R : List Row) (cur : Nat → Row → Row) (b : Nat → Bool) : Prop where
  made : hp[2]? = some (.list (R.map rowV))
  row : ∀ (i : Nat) (r : Row), R[i]? = some r → RowAt C hp r (cur i r) (b i)
  dn : ∀ (i k : Nat) (r r' : Row), R[i]? = some r → R[k]? = some r' → i ≠ k → r.n ≠ r'.n
  de : ∀ (i k : Nat) (r r' : Row), R[i]? = some r → R[k]? = some r' → i ≠ k → r.e ≠ r'.e
  c0 : ∃ v, hp[0]? = some (.cell v)
  c1 : ∃ v, hp[1]? = some (.cell v)
  few : R.length ≤ 5
theorem ne_of_objs {hp : List O} {i j : Nat} {o o' : O} (h1 : hp[i]? = some o) (h2 : hp[j]? = some o') (h : o ≠ o') : i ≠ j := fun e => by subst e; rw [h1] at h2; exact h (Option.some.inj h2)
section
variable {C : Addr} {hp : List O} {R : List Row} {cur : Nat → Row → Row} {b : Nat → Bool}
theorem RowAt.app {r cr : Row} {x : Bool} {g : List O} (A : RowAt C hp r cr x) : RowAt C (hp ++ g) r cr x := ⟨app_get A.exc, app_get A.ns, app_get A.lst, A.okr, A.okc⟩
theorem LawS.app {g : List O} (L : LawS C hp R cur b) : LawS C (hp ++ g) R cur b :=
  ⟨app_get L.made, fun i r h => (L.row i r h).app, L.dn, L.de, L.c0.imp fun _ h => app_get h, L.c1.imp fun _ h => app_get h, L.few⟩
theorem LawS.cell {k : Nat} {x : Option V} (L : LawS C hp R cur b) (hk : ∃ v, hp[k]? = some (.cell v)) : LawS C (hp.set k (.cell x)) R cur b := by
  obtain ⟨v, hv⟩ := hk
  refine ⟨set_ne (ne_of_objs L.made hv (by simp)) L.made, fun i r h => ?_, L.dn, L.de, ?_, ?_, L.few⟩
  · have A := L.row i r h
    exact ⟨set_ne (ne_of_objs A.exc hv (by simp)) A.exc, set_ne (ne_of_objs A.ns hv (by simp)) A.ns, set_ne (ne_of_objs A.lst hv (by simp)) A.lst, A.okr, A.okc⟩
  · by_cases e : k = 0
    · subst e; exact ⟨x, set_at hv⟩
    · exact L.c0.imp fun _ h => set_ne (Ne.symm e) h
  · by_cases e : k = 1
    · subst e; exact ⟨x, set_at hv⟩
    · exact L.c1.imp fun _ h => set_ne (Ne.symm e) h
theorem LawS.add {r : Row} (L : LawS C hp R (fun _ r => r) (fun _ => false)) (h5 : R.length < 5) (A : RowAt C hp r r false) (he : ∀ r' ∈ R, r'.e ≠ r.e) (hn : ∀ r' ∈ R, r'.n ≠ r.n) (hj : r.j ≠ 2) :
    LawS C (hp.set 2 (.list (R.map rowV ++ [rowV r]))) (R ++ [r]) (fun _ r => r) (fun _ => false) := by
  have up : ∀ {q : Row}, RowAt C hp q q false → q.j ≠ 2 → RowAt C (hp.set 2 (.list (R.map rowV ++ [rowV r]))) q q false := fun {q} A hj =>
    ⟨set_ne (ne_of_objs A.exc L.made (by simp)) A.exc, set_ne (ne_of_objs A.ns L.made (by simp)) A.ns, set_ne hj A.lst, A.okr, A.okc⟩
  have old : ∀ r' ∈ R, r'.j ≠ 2 := fun r' hm e => by
    obtain ⟨i, hi⟩ := List.mem_iff_getElem?.mp hm
    have A' := L.row i r' hi
    have := A'.lst
    rw [e, L.made] at this
    have h2 := Option.some.inj this
    simp only [O.list.injEq] at h2
    cases R with
    | nil => cases hm
    | cons q R => simp [rowV, Fld.t] at h2
  refine ⟨by rw [List.map_append]; exact set_at L.made, fun i r' h => ?_, fun i k r1 r2 h1 h2 hik => ?_, fun i k r1 r2 h1 h2 hik => ?_, ?_, ?_, by simp; omega⟩
  · by_cases hi : i < R.length
    · rw [List.getElem?_append_left hi] at h
      exact up (L.row i r' h) (old r' (List.mem_of_getElem? h))
    · rw [List.getElem?_append_right (by omega)] at h
      have e0 : i - R.length = 0 := by
        have := (List.getElem?_eq_some_iff.mp h).1
        simp at this; omega
      rw [e0] at h
      have := Option.some.inj h
      subst this
      exact up A hj
  · by_cases a : i < R.length <;> by_cases b : k < R.length
    · rw [List.getElem?_append_left a] at h1; rw [List.getElem?_append_left b] at h2; exact L.dn i k r1 r2 h1 h2 hik
    · rw [List.getElem?_append_left a] at h1; rw [List.getElem?_append_right (by omega)] at h2
      have := List.mem_of_getElem? h2; simp at this; subst this; exact hn r1 (List.mem_of_getElem? h1)
    · rw [List.getElem?_append_right (by omega)] at h1; rw [List.getElem?_append_left b] at h2
      have := List.mem_of_getElem? h1; simp at this; subst this; exact (hn r2 (List.mem_of_getElem? h2)).symm
    · have l1 := (List.getElem?_eq_some_iff.mp h1).1; have l2 := (List.getElem?_eq_some_iff.mp h2).1
      simp at l1 l2; omega
  · by_cases a : i < R.length <;> by_cases b : k < R.length
    · rw [List.getElem?_append_left a] at h1; rw [List.getElem?_append_left b] at h2; exact L.de i k r1 r2 h1 h2 hik
    · rw [List.getElem?_append_left a] at h1; rw [List.getElem?_append_right (by omega)] at h2
      have := List.mem_of_getElem? h2; simp at this; subst this; exact he r1 (List.mem_of_getElem? h1)
    · rw [List.getElem?_append_right (by omega)] at h1; rw [List.getElem?_append_left b] at h2
      have := List.mem_of_getElem? h1; simp at this; subst this; exact (he r2 (List.mem_of_getElem? h2)).symm
    · have l1 := (List.getElem?_eq_some_iff.mp h1).1; have l2 := (List.getElem?_eq_some_iff.mp h2).1
      simp at l1 l2; omega
  · exact L.c0.imp fun _ h => set_ne (ne_of_objs h L.made (by simp)) h
  · exact L.c1.imp fun _ h => set_ne (ne_of_objs h L.made (by simp)) h
theorem LawS.fields {k : Nat} {r nw : Row} {cur' : Nat → Row → Row} (L : LawS C hp R cur (fun _ => false)) (hk : R[k]? = some r) (ok : nw.ok) (hc : cur' k r = nw) (hc' : ∀ (i : Nat) (r : Row), i ≠ k → R[i]? = some r → cur' i r = cur i r) :
    LawS C (hp.set r.n (ens nw.F.v nw.L.v nw.M.v)) R cur' (fun _ => false) := by
  have K := L.row k r hk
  refine ⟨set_ne (ne_of_objs L.made K.ns (by simp)) L.made, fun i r' h => ?_, L.dn, L.de, L.c0.imp fun _ h => set_ne (ne_of_objs h K.ns (by simp)) h, L.c1.imp fun _ h => set_ne (ne_of_objs h K.ns (by simp)) h, L.few⟩
  have A := L.row i r' h
  by_cases hi : i = k
  · subst hi
    rw [hk] at h; cases h
    rw [hc]
    exact ⟨set_ne (ne_of_objs A.exc A.ns (by simp)) A.exc, set_at A.ns, set_ne (ne_of_objs A.lst A.ns (by simp)) A.lst, A.okr, ok⟩
  · rw [hc' i r' hi h]
    exact ⟨set_ne (ne_of_objs A.exc K.ns (by simp)) A.exc, set_ne (L.dn i k r' r h hk hi) A.ns, set_ne (ne_of_objs A.lst K.ns (by simp)) A.lst, A.okr, A.okc⟩
theorem LawS.raise {k : Nat} {r : Row} {b' : Nat → Bool} (L : LawS C hp R cur b) (hk : R[k]? = some r) (hb : b' k = true) (hb' : ∀ i, i ≠ k → b' i = b i) : LawS C (hp.set r.e (.exc C (some r.n) (.tup [r.M.v]) true)) R cur b' := by
  have K := L.row k r hk
  refine ⟨set_ne (ne_of_objs L.made K.exc (by simp)) L.made, fun i r' h => ?_, L.dn, L.de, L.c0.imp fun _ h => set_ne (ne_of_objs h K.exc (by simp)) h, L.c1.imp fun _ h => set_ne (ne_of_objs h K.exc (by simp)) h, L.few⟩
  have A := L.row i r' h
  by_cases hi : i = k
  · subst hi
    rw [hk] at h; cases h
    rw [hb]
    exact ⟨set_at A.exc, set_ne (ne_of_objs A.ns A.exc (by simp)) A.ns, set_ne (ne_of_objs A.lst A.exc (by simp)) A.lst, A.okr, A.okc⟩
  · rw [hb' i hi]
    exact ⟨set_ne (L.de i k r' r h hk hi) A.exc, set_ne (ne_of_objs A.ns K.exc (by simp)) A.ns, set_ne (ne_of_objs A.lst K.exc (by simp)) A.lst, A.okr, A.okc⟩
theorem rows_get {i : Nat} {r : Row} (h : R[i]? = some r) : (R.map rowV)[i]? = some (rowV r) := by rw [List.getElem?_map, h]; rfl
theorem rows_getD {i : Nat} (h : i < R.length) : ∃ r, R[i]? = some r ∧ (R.map rowV).getD i .none = rowV r := by
  refine ⟨_, List.getElem?_eq_getElem h, ?_⟩
  rw [List.getD_eq_getElem?_getD, List.getElem?_map, List.getElem?_eq_getElem h]; rfl
end
end Mine
namespace Mine
open PySem PySem.W PyProof.Rows PySem.SeqAt
structure LawK (K : Frag) (C : Addr) : Prop where
  gLen : nsIn K mainGlobals "len" = some none
  gRange : nsIn K mainGlobals "range" = some none
  g1 : nsIn K mainGlobals "ValueError" = some none
  g2 : nsIn K mainGlobals "LookupError" = some none
  g3 : nsIn K mainGlobals "OSError" = some none
  g4 : nsIn K mainGlobals "SyntaxError" = some none
  g5 : nsIn K mainGlobals "RuntimeError" = some none
  g6 : nsIn K mainGlobals "TypeError" = some none
  ofType : typeIn K (.ref C) = some (.type "type")
noncomputable abbrev cl2 : List (Str × Nat) := [("number", 1), ("figure", 0)]
noncomputable abbrev Xend : Fl → St → Prop := fun f σ => f = .ret (.bool true)
noncomputable abbrev forB : Stmt → List Stmt
  | .For _ _ body _ _ => body
  | _ => []
noncomputable abbrev bodyB : List Stmt := forB (nthS (fBody (stmt 7)) 1)
noncomputable abbrev lawFx (L fa : Addr) (cd : Value) (cells : List (Str × Addr)) (ρ₀ : List Addr) : Fx := ⟨envX "law" (fScope (stmt 7)) L fa cd cells, cl2, ρ₀⟩
theorem set_keep {α : Type} {l : List α} {i : Nat} {x : α} (h : l[i]? = some x) : l.set i x = l := by
  apply List.ext_getElem?
  intro k
  by_cases e : k = i
  · subst e; rw [List.getElem?_set_self (List.getElem?_eq_some_iff.mp h).1]; exact h.symm
  · rw [List.getElem?_set_ne (Ne.symm e)]
noncomputable def eF (m : Nat) (F : Fld) : Fld := if m = 0 ∨ m = 3 then .nul else F
noncomputable def eL (m : Nat) (F : Fld) : Fld := if m = 0 ∨ m = 1 then .nul else F
theorem FVk.mono {c : Cx} {k : Nat} {f : V} {vs kv : List V} {kn : List Str} {hp : List O} {Q Q' : V → List O → Prop} (h : FVk c k f vs kn kv hp Q) (hq : ∀ v hp', Q v hp' → Q' v hp') : FVk c k f vs kn kv hp Q' :=
  fun ρ s A x xs ys R ok r vf va vk => codeAny_mono (h ρ s A x xs ys R ok r vf va vk) fun _ _ ⟨ρ', v, hp', y, e, e1, r1, v1, q⟩ => ⟨ρ', v, hp', y, e, e1, r1, v1, hq _ _ q⟩
section
variable {c : Cx} {C aI aD' aS aW aD aF : Addr} {Lo fa : Addr} {cd : Value} {cells : List (Str × Addr)} {ρ₀ : List Addr}
theorem OU1.nameC {d : Nat} {fx : Fx} {σ : St} {x : Str} {pos : Pos} {v : V} {i : Nat} {v₀ : Option V} {Q : St → Prop} (e : fx.cl.lookup x = some i) (ho : σ.hp[i]? = some (.cell v₀)) (q : Q ⟨σ.loc, σ.hp.set i (.cell (some v))⟩) (hx : fx.env.kindOf x = some .cell := by rfl) :
    OU1 c d fx (fun y => PySem.assign (.Name x pos) fx.env y) v σ (fun _ σ' => Q σ') := fun ρ s A y R r hv => by
  obtain ⟨loc, hp⟩ := σ
  show wpAny c.M A (PySem.assign (.Name x pos) fx.env y) _ _ s
  rw [PySem.assign_Name]
  exact wpAny_bind (wpAny_standAt (wpAny_bindName (storeC r hv e ho (fun s' e' r' => ⟨ρ, _, List.prefix_refl _, e', r', q⟩) hx)))
noncomputable abbrev MadeE (C : Addr) (loc : List (Str × V)) (hp : List O) (M F L : Fld) : Fl → St → Prop := fun f σ' => f = .next ∧ σ' = ⟨put "error" (.ref hp.length) loc, hp ++ [.exc C (some (hp.length + 1)) (.tup [M.v]) false, ens F.v L.v M.v]⟩
theorem turnErr {loc : List (Str × V)} {hp : List O} {M F L : Fld} {m : Nat} (Z : ErrK c.K C aI aD' aS) (hm : m < 5) (e1 : at_ loc "msg" = some M.v) (e2 : at_ loc "filename" = some F.v) (e3 : at_ loc "lineno" = some L.v) (e4 : at_ loc "form" = some (.int m)) :
    XV c 60 (lawFx Lo fa cd cells ρ₀) (exec (nthS bodyB 3) (lawFx Lo fa cd cells ρ₀).env) ⟨loc, hp⟩ (MadeE C loc hp M (eF m F) (eL m L)) := by
  refine XV.ifB ?_
  refine TV.cmp ?_
  refine EV.var e4 ?_
  refine EV.cint ?_
  refine OV2.eq_int ⟨_, rfl, fun h => ?_, fun h0 => ?_⟩
  · have hm0 : m = 0 := by have := beq_iff_eq.mp h; omega
    subst hm0
    refine XV.cons ?_
    refine XV.assign ?_
    refine EV.call 3 Z.gC Z.kC ?_
    refine EVs.cons ?_
    refine EV.var e1 ?_
    refine EVs.nil ?_
    exact (FVk.fv (newErr Z (given0 M.v))).mono fun v hp' ⟨q1, q2⟩ => by subst q1; subst q2; exact XV.nil ⟨rfl, rfl⟩
  replace h0 : m ≠ 0 := fun e => by subst e; cases h0
  refine XV.cons ?_
  refine XV.ifB ?_
  refine TV.cmp ?_
  refine EV.var e4 ?_
  refine EV.cint ?_
  refine OV2.eq_int ⟨_, rfl, fun h => ?_, fun h1 => ?_⟩
  · have hm0 : m = 1 := by have := beq_iff_eq.mp h; omega
    subst hm0
    refine XV.cons ?_
    refine XV.assign ?_
    refine EV.call 3 Z.gC Z.kC ?_
    refine EVs.cons ?_
    refine EV.var e1 ?_
    refine EVs.cons ?_
    refine EV.var e2 ?_
    refine EVs.nil ?_
    exact (FVk.fv (newErr Z (given1 M.v F.v))).mono fun v hp' ⟨q1, q2⟩ => by subst q1; subst q2; exact XV.nil (XV.nil ⟨rfl, rfl⟩)
  replace h1 : m ≠ 1 := fun e => by subst e; cases h1
  refine XV.cons ?_
  refine XV.ifB ?_
  refine TV.cmp ?_
  refine EV.var e4 ?_
  refine EV.cint ?_
  refine OV2.eq_int ⟨_, rfl, fun h => ?_, fun h2 => ?_⟩
  · have hm0 : m = 2 := by have := beq_iff_eq.mp h; omega
    subst hm0
    refine XV.cons ?_
    refine XV.assign ?_
    refine EV.call 3 Z.gC Z.kC ?_
    refine EVs.cons ?_
    refine EV.var e1 ?_
    refine EVs.cons ?_
    refine EV.var e2 ?_
    refine EVs.cons ?_
    refine EV.var e3 ?_
    refine EVs.nil ?_
    exact (FVk.fv (newErr Z (given2 M.v F.v L.v))).mono fun v hp' ⟨q1, q2⟩ => by subst q1; subst q2; exact XV.nil (XV.nil (XV.nil ⟨rfl, rfl⟩))
  replace h2 : m ≠ 2 := fun e => by subst e; cases h2
  refine XV.cons ?_
  refine XV.ifB ?_
  refine TV.cmp ?_
  refine EV.var e4 ?_
  refine EV.cint ?_
  refine OV2.eq_int ⟨_, rfl, fun h => ?_, fun h3 => ?_⟩
  · have hm0 : m = 3 := by have := beq_iff_eq.mp h; omega
    subst hm0
    refine XV.cons ?_
    refine XV.assign ?_
    refine EV.callK 3 Z.gC Z.kC (kn := ["lineno"]) ?_
    refine EVs.cons ?_
    refine EV.var e1 ?_
    refine EVs.nil ?_
    refine EKs.cons ?_
    refine EV.var e3 ?_
    refine EKs.nil ?_
    exact (newErr Z (given3 M.v L.v)).mono fun v hp' ⟨q1, q2⟩ => by subst q1; subst q2; exact XV.nil (XV.nil (XV.nil (XV.nil ⟨rfl, rfl⟩)))
  replace h3 : m ≠ 3 := fun e => by subst e; cases h3
  have hm0 : m = 4 := by omega
  subst hm0
  refine XV.cons ?_
  refine XV.assign ?_
  refine EV.callK 3 Z.gC Z.kC (kn := ["lineno", "filename", "msg"]) ?_
  refine EVs.nil ?_
  refine EKs.cons ?_
  refine EV.var e3 ?_
  refine EKs.cons ?_
  refine EV.var e2 ?_
  refine EKs.cons ?_
  refine EV.var e1 ?_
  refine EKs.nil ?_
  exact (newErr Z (given4 M.v F.v L.v)).mono fun v hp' ⟨q1, q2⟩ => by subst q1; subst q2; exact XV.nil (XV.nil (XV.nil (XV.nil ⟨rfl, rfl⟩)))
theorem turnF {loc : List (Str × V)} {hp : List O} {M F L : Fld} {m j : Nat} (e4 : at_ loc "form" = some (.int m)) (e5 : at_ loc "fields" = some (.ref j)) (hj : hp[j]? = some (.list [M.t, F.t, L.t])) :
    XV c 60 (lawFx Lo fa cd cells ρ₀) (exec (nthS bodyB 4) (lawFx Lo fa cd cells ρ₀).env) ⟨loc, hp⟩ (fun f σ' => f = .next ∧ σ' = ⟨loc, hp.set j (.list [M.t, (eF m F).t, L.t])⟩) := by
  refine XV.ifB ?_
  refine TV.cmp ?_
  refine EV.var e4 ?_
  refine EV.tuple ?_
  refine EVs.cons ?_
  refine EV.cint ?_
  refine EVs.cons ?_
  refine EV.cint ?_
  refine EVs.nil ⟨(show (2 : Nat) ≤ 1000 by decide), ?_⟩
  refine OV2.in_ints (ns := [0, 3]) ⟨_, rfl, fun h => ?_, fun h => ?_⟩
  · have hm : m = 0 ∨ m = 3 := by simp at h; omega
    refine XV.cons ?_
    refine XV.setsub ?_
    refine EV.tuple ?_
    refine EVs.cons ?_
    refine EV.cnone ?_
    refine EVs.cons ?_
    refine EV.cstr (l := [78, 111, 110, 101]) ?_
    refine EVs.nil ⟨(show (2 : Nat) ≤ 1000 by decide), ?_⟩
    refine EV.var e5 ?_
    refine EV.cint ?_
    refine ⟨j, _, 1, rfl, rfl, hj, by decide, (show (1 : Int) < 3 by decide), (show (3 : Nat) < 2 ^ 62 by decide), ?_⟩
    refine XV.nil ⟨rfl, ?_⟩
    unfold eF; rw [if_pos hm]; rfl
  · have hm : ¬ (m = 0 ∨ m = 3) := by simp at h; omega
    refine XV.nil ⟨rfl, ?_⟩
    unfold eF; rw [if_neg hm]
    rw [set_keep hj]
theorem turnL {loc : List (Str × V)} {hp : List O} {M F L : Fld} {m j : Nat} (e4 : at_ loc "form" = some (.int m)) (e5 : at_ loc "fields" = some (.ref j)) (hj : hp[j]? = some (.list [M.t, F.t, L.t])) :
    XV c 60 (lawFx Lo fa cd cells ρ₀) (exec (nthS bodyB 5) (lawFx Lo fa cd cells ρ₀).env) ⟨loc, hp⟩ (fun f σ' => f = .next ∧ σ' = ⟨loc, hp.set j (.list [M.t, F.t, (eL m L).t])⟩) := by
  refine XV.ifB ?_
  refine TV.cmp ?_
  refine EV.var e4 ?_
  refine EV.tuple ?_
  refine EVs.cons ?_
  refine EV.cint ?_
  refine EVs.cons ?_
  refine EV.cint ?_
  refine EVs.nil ⟨(show (2 : Nat) ≤ 1000 by decide), ?_⟩
  refine OV2.in_ints (ns := [0, 1]) ⟨_, rfl, fun h => ?_, fun h => ?_⟩
  · have hm : m = 0 ∨ m = 1 := by simp at h; omega
    refine XV.cons ?_
    refine XV.setsub ?_
    refine EV.tuple ?_
    refine EVs.cons ?_
    refine EV.cnone ?_
    refine EVs.cons ?_
    refine EV.cstr (l := [78, 111, 110, 101]) ?_
    refine EVs.nil ⟨(show (2 : Nat) ≤ 1000 by decide), ?_⟩
    refine EV.var e5 ?_
    refine EV.cint ?_
    refine ⟨j, _, 2, rfl, rfl, hj, by decide, (show (2 : Int) < 3 by decide), (show (3 : Nat) < 2 ^ 62 by decide), ?_⟩
    refine XV.nil ⟨rfl, ?_⟩
    unfold eL; rw [if_pos hm]; rfl
  · have hm : ¬ (m = 0 ∨ m = 1) := by simp at h; omega
    refine XV.nil ⟨rfl, ?_⟩
    unfold eL; rw [if_neg hm]
    rw [set_keep hj]
end
end Mine
namespace Mine
open PySem PySem.W PyProof.Rows PySem.SeqAt
theorem fm (a : Nat) {b : Nat} : ((a : Int).fmod (b : Int)) = ((a % b : Nat) : Int) := by rw [Int.fmod_eq_emod_of_nonneg _ (by omega)]; omega
theorem six {m : Nat} (h : m < 3) : (6 : Int) ^ ((m : Int)).toNat ≠ 0 ∧ ((6 : Int) ^ ((m : Int)).toNat).natAbs.log2 < 9000 := by
  match m, h with
  | 0, _ | 1, _ | 2, _ => exact ⟨by decide, by decide⟩
  | n + 3, h => exact absurd h (by omega)
section
variable {c : Cx} {C aI aD' aS aW aD aF : Addr} {Lo fa : Addr} {cd : Value} {cells : List (Str × Addr)} {ρ₁ : List Addr}
theorem LawS.list {C : Addr} {hp : List O} {R : List Row} {cur : Nat → Row → Row} {b : Nat → Bool} {j : Nat} {vs us : List V} (L : LawS C hp R cur b) (hj : hp[j]? = some (.list vs)) (h2 : j ≠ 2) (hr : ∀ r ∈ R, r.j ≠ j) : LawS C (hp.set j (.list us)) R cur b := by
  refine ⟨set_ne (Ne.symm h2) L.made, fun i r h => ?_, L.dn, L.de, L.c0.imp fun _ h => set_ne (ne_of_objs h hj (by simp)) h, L.c1.imp fun _ h => set_ne (ne_of_objs h hj (by simp)) h, L.few⟩
  have A := L.row i r h
  exact ⟨set_ne (ne_of_objs A.exc hj (by simp)) A.exc, set_ne (ne_of_objs A.ns hj (by simp)) A.ns, set_ne (hr r (List.mem_of_getElem? h)) A.lst, A.okr, A.okc⟩
inductive Built (C : Addr) (i : Nat) (σ : St) : Prop
  | mk (R : List Row) (l0 : at_ σ.loc "made" = some (.ref 2)) (len : R.length = i) (L : LawS C σ.hp R (fun _ r => r) (fun _ => false)) : Built C i σ
theorem turnB {i f : Nat} {z : Int} {σ : St} (hn : c.hd = none) (Z : ErrK c.K C aI aD' aS) (D : DigK c.K aD) (S : FldK c.K aF) (K : LawK c.K C) (hf : f < 1080) (hz : z.natAbs < 10 ^ 21) (hi : i < 5) (B : Built C i σ) {l : Nat} {ws : List V} (hl2 : l ≠ 2) (hl : σ.hp[l]? = some (.list ws)) :
    XV c 60 (lawFx Lo fa cd cells ρ₁) (execs bodyB (lawFx Lo fa cd cells ρ₁).env) ⟨σ.loc, (σ.hp.set 0 (.cell (some (.int (f : Nat))))).set 1 (.cell (some (.int z)))⟩ (fun f σ' => f = .next ∧ Built C (i + 1) σ' ∧ σ'.hp[l]? = some (.list ws)) := by
  obtain ⟨R, l0, len, L⟩ := B
  have L1 := L.cell (x := some (.int (f : Nat))) L.c0
  have L2 := L1.cell (x := some (.int z)) L1.c1
  have y0 : ((σ.hp.set 0 (.cell (some (.int (f : Nat))))).set 1 (.cell (some (.int z))))[0]? = some (.cell (some (.int (f : Nat)))) := by obtain ⟨v, hv⟩ := L.c0; exact set_ne (by decide) (set_at hv)
  have y1 : ((σ.hp.set 0 (.cell (some (.int (f : Nat))))).set 1 (.cell (some (.int z))))[1]? = some (.cell (some (.int z))) := by obtain ⟨v, hv⟩ := L1.c1; exact set_at hv
  have yl : ((σ.hp.set 0 (.cell (some (.int (f : Nat))))).set 1 (.cell (some (.int z))))[l]? = some (.list ws) := by
    obtain ⟨v, hv⟩ := L.c0
    obtain ⟨v', hv'⟩ := L1.c1
    have h0 := set_ne (x := O.cell (some (V.int (f : Nat)))) (ne_of_objs hl hv (by simp)) hl
    exact set_ne (ne_of_objs h0 hv' (by simp)) h0
  generalize (σ.hp.set 0 (.cell (some (.int (f : Nat))))).set 1 (.cell (some (.int z))) = Y at y0 y1 L2 yl
  have hlY : l < Y.length := lt_of_get yl
  clear L L1
  have Y2 : 2 < Y.length := lt_of_get L2.made
  have Re : ∀ r ∈ R, r.e < Y.length ∧ r.n < Y.length ∧ r.j < Y.length := fun r hr => by
    obtain ⟨k, hk⟩ := List.mem_iff_getElem?.mp hr
    have A := L2.row k r hk
    exact ⟨lt_of_get A.exc, lt_of_get A.ns, lt_of_get A.lst⟩
  refine XV.cons ?_
  refine XV.assignComp (cl' := [("number", 1), ("figure", 0)]) (by rfl) ?_
  refine EV.callT K.gRange Boot.«range» (by decide) ?_
  refine EVs.cons ?_
  refine EV.cint ?_
  refine EVs.nil ?_
  refine OVs.range1 ?_
  dsimp only
  obtain ⟨B, hB⟩ : ∃ B, B = Y ++ [O.rng 0 3 1] := ⟨_, rfl⟩
  rw [← hB]
  have b0 : B[Y.length]? = some (.rng 0 (3 : Nat) 1) := by rw [hB]; exact ga
  have c0 : B[0]? = some (.cell (some (.int (f : Nat)))) := by rw [hB]; exact app_get y0
  have c1 : B[1]? = some (.cell (some (.int z))) := by rw [hB]; exact app_get y1
  have LB : LawS C B R (fun _ r => r) (fun _ => false) := by rw [hB]; exact L2.app
  have bl : B[l]? = some (.list ws) := by rw [hB]; exact app_get yl
  have hBl : Y.length ≤ B.length := by rw [hB]; simp
  clear hB
  refine ⟨3, _, _, fun m acc hp' => ∃ Fs g, acc = Fs.map Fld.t ∧ Fs.length = m ∧ (∀ F ∈ Fs, F.ok) ∧ hp' = B ++ .list acc :: g, Src.upto hn b0 (by decide), ⟨[], [], rfl, rfl, by simp, rfl⟩, ⟨?_, ?_⟩, ?_⟩
  · rintro m acc hp' ⟨Fs, g, rfl, hl, ok, rfl⟩
    exact ⟨ga, fun _ => trivial⟩
  · rintro C' clos ρ₂ m acc hp' hm ⟨Fs, g, rfl, hl, ok, rfl⟩
    obtain ⟨s1, s2⟩ := six hm
    show EV _ _ _ _ _ _
    refine EV.call 4 S.g S.k ?_
    refine EVs.cons ?_
    refine EV.binop ?_
    refine EV.binop ?_
    refine EV.binop ?_
    refine EV.cell (i := 0) rfl (app_get c0) ?_
    refine EV.cint ?_
    refine OV2.fdiv_int (by decide) (PyProof.noPylong_of_log2 (by decide +kernel)) ?_
    refine EV.binop ?_
    refine EV.cint ?_
    refine EV.var rfl ?_
    refine OV2.pow_int (by omega) (by omega) (by decide) ?_
    refine OV2.fdiv_int s1 (PyProof.noPylong_of_log2 s2) ?_
    refine EV.cint ?_
    refine OV2.mod_int (by decide) ?_
    refine EVs.cons ?_
    refine EV.binop ?_
    refine EV.binop ?_
    refine EV.cint ?_
    refine EV.cell (i := 1) rfl (app_get c1) ?_
    refine OV2.mul_int (.of_left (by decide)) ?_
    refine EV.var rfl ?_
    refine OV2.add_int ?_
    refine EVs.nil ?_
    refine (lawField D S (by omega)).mono fun v hp' ⟨F, g', q1, q2, q3⟩ => ?_
    subst q1; subst q3
    refine ⟨by rw [List.append_assoc]; exact ga, by simp; omega, Fs ++ [F], g ++ g', by simp, by simp [hl], fun G hG => ?_, ?_⟩
    · rcases List.mem_append.mp hG with hG | hG
      · exact ok G hG
      · rw [List.mem_singleton] at hG; subst hG; exact q2
    · rw [List.append_assoc]; exact sa
  rintro acc hp' ⟨Fs, g, rfl, hFl, ok, rfl⟩
  obtain ⟨F0, F1, F2, rfl⟩ := listEq3 hFl.symm
  have o0 := ok F0 (by simp)
  have o1 := ok F1 (by simp)
  have o2 := ok F2 (by simp)
  refine OU1.name ?_
  have LD : LawS C (B ++ .list [F0.t, F1.t, F2.t] :: g) R (fun _ r => r) (fun _ => false) := LB.app
  have d0 : (B ++ .list [F0.t, F1.t, F2.t] :: g)[0]? = some (.cell (some (.int (f : Nat)))) := app_get c0
  have dj : (B ++ .list [F0.t, F1.t, F2.t] :: g)[B.length]? = some (.list [F0.t, F1.t, F2.t]) := ga
  have hDl : B.length < (B ++ .list [F0.t, F1.t, F2.t] :: g).length := by simp
  show XV c 60 _ _ ⟨put "fields" (.ref B.length) σ.loc, B ++ .list [F0.t, F1.t, F2.t] :: g⟩ _
  have dl : (B ++ .list [F0.t, F1.t, F2.t] :: g)[l]? = some (.list ws) := app_get bl
  generalize B ++ O.list [F0.t, F1.t, F2.t] :: g = D' at LD d0 dj hDl dl
  refine XV.cons ?_
  refine XV.assignT ?_
  refine EV.compT (cl' := []) (by rfl) ?_
  refine EV.var lk_eq ?_
  refine ⟨_, _, _, _, SrcT.tupList (vs := [F0.t, F1.t, F2.t]) dj, ⟨rfl, rfl⟩, compFields (sel := Fld.v) dj (fun _ => rfl) rfl rfl, ?_⟩
  rintro acc hp' ⟨rfl, rfl⟩
  refine OU1.tupleL ga rfl ?_
  show OU1 _ _ _ _ _ _ _
  refine OU1.name ?_
  show OU1 _ _ _ _ _ _ _
  refine OU1.name ?_
  show OU1 _ _ _ _ _ _ _
  refine OU1.name ?_
  show XV c 60 _ _ ⟨put "lineno" F2.v (put "filename" F1.v (put "msg" F0.v (put "fields" (.ref B.length) σ.loc))), D' ++ [.list [F0.v, F1.v, F2.v]]⟩ _
  have LE : LawS C (D' ++ [.list [F0.v, F1.v, F2.v]]) R (fun _ r => r) (fun _ => false) := LD.app
  have e0 : (D' ++ [.list [F0.v, F1.v, F2.v]])[0]? = some (.cell (some (.int (f : Nat)))) := app_get d0
  have ej : (D' ++ [.list [F0.v, F1.v, F2.v]])[B.length]? = some (.list [F0.t, F1.t, F2.t]) := app_get dj
  have hEl : B.length < (D' ++ [O.list [F0.v, F1.v, F2.v]]).length := by simp; omega
  have el : (D' ++ [.list [F0.v, F1.v, F2.v]])[l]? = some (.list ws) := app_get dl
  generalize D' ++ [O.list [F0.v, F1.v, F2.v]] = E at LE e0 ej hEl el
  refine XV.cons ?_
  refine XV.assign ?_
  refine EV.binop ?_
  refine EV.cell (i := 0) rfl e0 ?_
  refine EV.cint ?_
  refine OV2.mod_int (by decide) ?_
  rw [show ((f : Int).fmod 5) = ((f % 5 : Nat) : Int) from fm f (b := 5)]
  have hm5 : f % 5 < 5 := Nat.mod_lt _ (by decide)
  generalize f % 5 = m at hm5
  obtain ⟨loc, hloc⟩ : ∃ loc, loc = put "form" (.int (m : Nat)) (put "lineno" F2.v (put "filename" F1.v (put "msg" F0.v (put "fields" (.ref B.length) σ.loc)))) := ⟨_, rfl⟩
  have k1 : at_ loc "msg" = some F0.v := by rw [hloc]; exact lk_ne (lk_ne (lk_ne lk_eq (by decide)) (by decide)) (by decide)
  have k2 : at_ loc "filename" = some F1.v := by rw [hloc]; exact lk_ne (lk_ne lk_eq (by decide)) (by decide)
  have k3 : at_ loc "lineno" = some F2.v := by rw [hloc]; exact lk_ne lk_eq (by decide)
  have k4 : at_ loc "form" = some (.int (m : Nat)) := by rw [hloc]; exact lk_eq
  have k5 : at_ loc "fields" = some (.ref B.length) := by rw [hloc]; exact lk_ne (lk_ne (lk_ne (lk_ne lk_eq (by decide)) (by decide)) (by decide)) (by decide)
  have k6 : at_ loc "made" = some (.ref 2) := by rw [hloc]; exact lk_ne (lk_ne (lk_ne (lk_ne (lk_ne l0 (by decide)) (by decide)) (by decide)) (by decide)) (by decide)
  show XV c 60 _ _ ⟨put "form" (.int (m : Nat)) (put "lineno" F2.v (put "filename" F1.v (put "msg" F0.v (put "fields" (.ref B.length) σ.loc)))), E⟩ _
  rw [← hloc]
  clear hloc
  refine XV.cons ((turnErr (ρ₀ := ρ₁) Z hm5 k1 k2 k3 k4).mono ?_)
  rintro _ _ ⟨rfl, rfl⟩
  show XV c 60 _ _ ⟨put "error" (.ref E.length) loc, _⟩ _
  have LG : LawS C (E ++ [.exc C (some (E.length + 1)) (.tup [F0.v]) false, ens (eF m F1).v (eL m F2).v F0.v]) R (fun _ r => r) (fun _ => false) := LE.app
  have gj : (E ++ [O.exc C (some (E.length + 1)) (.tup [F0.v]) false, ens (eF m F1).v (eL m F2).v F0.v])[B.length]? = some (.list [F0.t, F1.t, F2.t]) := app_get ej
  have ge : (E ++ [O.exc C (some (E.length + 1)) (.tup [F0.v]) false, ens (eF m F1).v (eL m F2).v F0.v])[E.length]? = some (.exc C (some (E.length + 1)) (.tup [F0.v]) false) := ga
  have gn : (E ++ [O.exc C (some (E.length + 1)) (.tup [F0.v]) false, ens (eF m F1).v (eL m F2).v F0.v])[E.length + 1]? = some (ens (eF m F1).v (eL m F2).v F0.v) := by
    rw [List.getElem?_append_right (by omega), Nat.add_sub_cancel_left]; rfl
  have gl : (E ++ [O.exc C (some (E.length + 1)) (.tup [F0.v]) false, ens (eF m F1).v (eL m F2).v F0.v])[l]? = some (.list ws) := app_get el
  generalize E ++ [O.exc C (some (E.length + 1)) (.tup [F0.v]) false, ens (eF m F1).v (eL m F2).v F0.v] = G at LG gj ge gn gl
  refine XV.cons ((turnF (ρ₀ := ρ₁) (lk_ne k4 (by decide)) (lk_ne k5 (by decide)) gj).mono ?_)
  rintro _ _ ⟨rfl, rfl⟩
  show XV c 60 _ _ ⟨put "error" (.ref E.length) loc, _⟩ _
  refine XV.cons ((turnL (F := eF m F1) (ρ₀ := ρ₁) (lk_ne k4 (by decide)) (lk_ne k5 (by decide)) (set_at gj)).mono ?_)
  rintro _ _ ⟨rfl, rfl⟩
  show XV c 60 _ _ ⟨put "error" (.ref E.length) loc, _⟩ _
  have hlen : R.length ≤ 5 := LG.few
  have nj : B.length ≠ 2 := by omega
  have rj : ∀ r ∈ R, r.j ≠ B.length := fun r hr => by have := (Re r hr).2.2; omega
  have LP := (LG.list (us := [F0.t, (eF m F1).t, F2.t]) gj nj rj).list (us := [F0.t, (eF m F1).t, (eL m F2).t]) (set_at gj) nj rj
  have pe := set_ne (x := O.list [F0.t, (eF m F1).t, (eL m F2).t]) (show E.length ≠ B.length by omega) (set_ne (x := O.list [F0.t, (eF m F1).t, F2.t]) (show E.length ≠ B.length by omega) ge)
  have pn := set_ne (x := O.list [F0.t, (eF m F1).t, (eL m F2).t]) (show E.length + 1 ≠ B.length by omega) (set_ne (x := O.list [F0.t, (eF m F1).t, F2.t]) (show E.length + 1 ≠ B.length by omega) gn)
  have pj := set_at (x := O.list [F0.t, (eF m F1).t, (eL m F2).t]) (set_at (x := O.list [F0.t, (eF m F1).t, F2.t]) gj)
  have pl := set_ne (x := O.list [F0.t, (eF m F1).t, (eL m F2).t]) (show l ≠ B.length by omega) (set_ne (x := O.list [F0.t, (eF m F1).t, F2.t]) (show l ≠ B.length by omega) gl)
  generalize (G.set B.length (O.list [F0.t, (eF m F1).t, F2.t])).set B.length (O.list [F0.t, (eF m F1).t, (eL m F2).t]) = P at LP pe pn pj pl
  refine XV.cons ?_
  refine XV.expr ?_
  refine EV.append ?_
  refine EV.var (lk_ne k6 (by decide)) ⟨⟨2, _, rfl, LP.made⟩, ?_⟩
  refine EVs.cons ?_
  refine EV.tuple ?_
  refine EVs.cons ?_
  refine EV.var lk_eq ?_
  refine EVs.cons ?_
  refine EV.var (lk_ne k5 (by decide)) ?_
  refine EVs.nil ⟨(show (2 : Nat) ≤ 1000 by decide), ?_⟩
  refine EVs.nil ?_
  refine OVs.append LP.made (by rw [List.length_map]; omega) ?_
  have okF : (eF m F1).ok := by unfold eF; split; exact trivial; exact o1
  have okL : (eL m F2).ok := by unfold eL; split; exact trivial; exact o2
  refine XV.nil ⟨rfl, ⟨R ++ [⟨E.length, E.length + 1, B.length, F0, eF m F1, eL m F2⟩], lk_ne k6 (by decide), by simp [len], ?_⟩, set_ne hl2 pl⟩
  refine LawS.add (r := ⟨E.length, E.length + 1, B.length, F0, eF m F1, eL m F2⟩) LP (by omega) ⟨pe, pn, pj, ⟨o0, okF, okL⟩, ⟨o0, okF, okL⟩⟩ (fun r' hr => ?_) (fun r' hr => ?_) nj
  · have := (Re r' hr).1; show r'.e ≠ E.length; omega
  · have := (Re r' hr).2.1; show r'.n ≠ E.length + 1; omega
end
end Mine
namespace Mine
open PySem PySem.W PyProof.Rows PySem.SeqAt
noncomputable def prI (R : List Row) (i : Nat) : Nat := if i = 0 then R.length - 1 else i - 1
noncomputable def prv (R : List Row) (i : Nat) : Row := R.getD (prI R i) ⟨0, 0, 0, .nul, .nul, .nul⟩
theorem prI_lt {R : List Row} {i : Nat} (h : i < R.length) : prI R i < R.length := by unfold prI; split <;> omega
theorem prv_get {R : List Row} {i : Nat} (h : i < R.length) : R[prI R i]? = some (prv R i) := by
  unfold prv
  rw [List.getD_eq_getElem?_getD, List.getElem?_eq_getElem (prI_lt h)]; rfl
section
variable {c : Cx} {C aI aD' aS aW aD aF : Addr} {Lo fa : Addr} {cd : Value} {cells : List (Str × Addr)} {ρ₁ : List Addr} {d : Nat} {loc : List (Str × V)} {hp : List O} {R : List Row} {cur : Nat → Row → Row} {b : Nat → Bool} {Q : V → St → Prop} {k : Nat} {r : Row}
theorem subAt {p1 p2 p3 p4 p5 : Pos} {n : Int} {u : V} (h1 : at_ loc "made" = some (.ref 2)) (h2 : at_ loc "k" = some (.int (k : Nat))) (L : LawS C hp R cur b) (hk : R[k]? = some r) (hn : 0 ≤ n) (hu : [V.ref r.e, V.ref r.j][n.toNat]? = some u) (q : Q u ⟨loc, hp⟩) :
    EV c d (lawFx Lo fa cd cells ρ₁) (eval (.Subscript (.Subscript (.Name "made" p1) (.Name "k" p2) p3) (.Constant (.int n) 0 p4) p5) (lawFx Lo fa cd cells ρ₁).env) ⟨loc, hp⟩ Q := by
  have hlt := (List.getElem?_eq_some_iff.mp hk).1
  have hf := L.few
  refine EV.sub ?_
  refine EV.sub ?_
  refine EV.var h1 ?_
  refine EV.var h2 ?_
  refine OV2.item L.made (by omega) (v := rowV r) (by rw [Int.toNat_natCast]; exact rows_get hk) (by rw [List.length_map]; omega) ?_
  refine EV.cint ?_
  exact OV2.itemT hn hu (show (2 : Nat) < 2 ^ 62 by decide) q
theorem subPrev {p1 p2 p3 p4 p5 p6 p7 : Pos} (h1 : at_ loc "made" = some (.ref 2)) (h2 : at_ loc "k" = some (.int (k : Nat))) (L : LawS C hp R cur b) (hk : k < R.length) (q : Q (.ref (prv R k).j) ⟨loc, hp⟩) :
    EV c d (lawFx Lo fa cd cells ρ₁) (eval (.Subscript (.Subscript (.Name "made" p1) (.BinOp (.Name "k" p2) .Sub (.Constant (.int 1) 0 p3) p4) p5) (.Constant (.int 1) 0 p6) p7) (lawFx Lo fa cd cells ρ₁).env) ⟨loc, hp⟩ Q := by
  have hf := L.few
  have hp := prv_get hk
  have tail : EV c d (lawFx Lo fa cd cells ρ₁) (eval (.Constant (.int 1) 0 p6) (lawFx Lo fa cd cells ρ₁).env) ⟨loc, _⟩ (fun u σ₂ => OV2 c d (lawFx Lo fa cd cells ρ₁) (fun o i => subscriptTail (.Subscript (.Name "made" p1) (.BinOp (.Name "k" p2) .Sub (.Constant (.int 1) 0 p3) p4) p5) (.Constant (.int 1) 0 p6) o i) (rowV (prv R k)) u σ₂ Q) :=
    EV.cint (OV2.itemT (by decide) (v := .ref (prv R k).j) rfl (show (2 : Nat) < 2 ^ 62 by decide) q)
  refine EV.sub ?_
  refine EV.sub ?_
  refine EV.var h1 ?_
  refine EV.binop ?_
  refine EV.var h2 ?_
  refine EV.cint ?_
  refine OV2.sub_int ?_
  by_cases h0 : k = 0
  · subst h0
    refine OV2.itemN L.made (by decide) (by rw [List.length_map]; omega) (v := rowV (prv R 0)) ?_ (by rw [List.length_map]; omega) tail
    have e : (((0 : Nat) : Int) - 1 + ((R.map rowV).length : Nat)).toNat = prI R 0 := by rw [List.length_map]; unfold prI; simp; omega
    rw [e]; exact rows_get hp
  · refine OV2.item L.made (by omega) (v := rowV (prv R k)) ?_ (by rw [List.length_map]; omega) tail
    have e : ((k : Int) - 1).toNat = prI R k := by unfold prI; rw [if_neg h0]; omega
    rw [e]; exact rows_get hp
noncomputable abbrev curC (R : List Row) (k : Nat) : Nat → Row → Row := fun i r => if i < k then prv R i else r
noncomputable abbrev bodyC : List Stmt := forB (nthS (fBody (stmt 7)) 3)
inductive Chg (C : Addr) (R : List Row) (k : Nat) (σ : St) : Prop
  | mk (l0 : at_ σ.loc "made" = some (.ref 2)) (L : LawS C σ.hp R (curC R k) (fun _ => false)) : Chg C R k σ
theorem turnCh {σ : St} (Z : ErrK c.K C aI aD' aS) (hk : k < R.length) (B : Chg C R k σ) :
    XV c 60 (lawFx Lo fa cd cells ρ₁) (execs bodyC (lawFx Lo fa cd cells ρ₁).env) ⟨put "k" (.int (k : Nat)) σ.loc, σ.hp⟩ (fun f σ' => f = .next ∧ Chg C R (k + 1) σ') := by
  obtain ⟨l0, L⟩ := B
  obtain ⟨r, hr⟩ : ∃ r, R[k]? = some r := ⟨_, List.getElem?_eq_getElem hk⟩
  have A := L.row k r hr
  have hq := prv_get hk
  have P := L.row _ _ hq
  have hcur : curC R k k r = r := if_neg (Nat.lt_irrefl _)
  rw [hcur] at A
  refine XV.cons ?_
  refine XV.assign ?_
  refine subAt (lk_ne l0 (by decide)) lk_eq L hr (by decide) rfl ?_
  refine XV.cons ?_
  refine XV.assignT ?_
  refine EV.compT (cl' := []) (by rfl) ?_
  refine subPrev (lk_ne (lk_ne l0 (by decide)) (by decide)) (lk_ne lk_eq (by decide)) L hk ?_
  refine ⟨_, _, _, _, SrcT.tupList (vs := [(prv R k).M.t, (prv R k).F.t, (prv R k).L.t]) P.lst, ⟨rfl, rfl⟩, compFields (sel := Fld.v) P.lst (fun _ => rfl) rfl rfl, ?_⟩
  rintro acc hp' ⟨rfl, rfl⟩
  have LH : LawS C (σ.hp ++ [.list [(prv R k).M.v, (prv R k).F.v, (prv R k).L.v]]) R (curC R k) (fun _ => false) := L.app
  have AH : RowAt C (σ.hp ++ [.list [(prv R k).M.v, (prv R k).F.v, (prv R k).L.v]]) r r false := A.app
  refine OU1.tupleL ga rfl ?_
  show OU1 c 60 _ _ _ ⟨put "error" (.ref r.e) (put "k" (.int (k : Nat)) σ.loc), σ.hp ++ [.list [(prv R k).M.v, (prv R k).F.v, (prv R k).L.v]]⟩ _
  generalize σ.hp ++ [O.list [(prv R k).M.v, (prv R k).F.v, (prv R k).L.v]] = H at LH AH
  have nr : ∀ {o : O}, r.e ≠ r.n := fun {o} => ne_of_objs AH.exc AH.ns (by simp)
  refine OU1.attrE ?_
  refine EV.var lk_eq ?_
  refine ⟨r.e, C, r.n, _, _, _, rfl, AH.exc, AH.ns, Z.cls, by unfold takerIn; rw [Z.a3]; rfl, (show (3 : Nat) < 1000 by decide), ?_⟩
  show OU1 c 60 _ _ _ ⟨_, H.set r.n (ens r.F.v r.L.v (prv R k).M.v)⟩ _
  refine OU1.attrE ?_
  refine EV.var lk_eq ?_
  refine ⟨r.e, C, r.n, _, _, _, rfl, set_ne (nr (o := .list [])) AH.exc, set_at AH.ns, Z.cls, by unfold takerIn; rw [Z.a1]; rfl, (show (3 : Nat) < 1000 by decide), ?_⟩
  show OU1 c 60 _ _ _ ⟨_, (H.set r.n (ens r.F.v r.L.v (prv R k).M.v)).set r.n (ens (prv R k).F.v r.L.v (prv R k).M.v)⟩ _
  rw [List.set_set]
  refine OU1.attrE ?_
  refine EV.var lk_eq ?_
  refine ⟨r.e, C, r.n, _, _, _, rfl, set_ne (nr (o := .list [])) AH.exc, set_at AH.ns, Z.cls, by unfold takerIn; rw [Z.a2]; rfl, (show (3 : Nat) < 1000 by decide), ?_⟩
  show XV c 60 _ _ ⟨_, (H.set r.n (ens (prv R k).F.v r.L.v (prv R k).M.v)).set r.n (ens (prv R k).F.v (prv R k).L.v (prv R k).M.v)⟩ _
  rw [List.set_set]
  refine XV.nil ⟨rfl, lk_ne (lk_ne l0 (by decide)) (by decide), ?_⟩
  refine LH.fields hr P.okr (if_pos (Nat.lt_succ_self _)) fun i r' hi _ => ?_
  show (if i < k + 1 then _ else _) = (if i < k then _ else _)
  by_cases h : i < k
  · rw [if_pos h, if_pos (by omega)]
  · rw [if_neg h, if_neg (by omega)]
noncomputable abbrev bodyR : List Stmt := forB (nthS (fBody (stmt 7)) 4)
inductive Rsd (C : Addr) (R : List Row) (k : Nat) (σ : St) : Prop
  | mk (l0 : at_ σ.loc "made" = some (.ref 2)) (L : LawS C σ.hp R (fun i _ => prv R i) (fun i => decide (i < k))) : Rsd C R k σ
theorem like_v (F : Fld) (hp : List O) (n : Nat) : Like hp (n + 1) F.v F.v := like_fld F
theorem turnR {σ : St} (hd : c.hd = none) (hfr : c.A₀.frames = some []) (htop : (lawFx Lo fa cd cells ρ₁).env = c.top) (Z : ErrK c.K C aI aD' aS) (W : WhlK c.K aW) (K : LawK c.K C) (hk : k < R.length) (B : Rsd C R k σ) :
    XV c 60 (lawFx Lo fa cd cells ρ₁) (execs bodyR (lawFx Lo fa cd cells ρ₁).env) ⟨put "k" (.int (k : Nat)) σ.loc, σ.hp⟩ (fun f σ' => f = .next ∧ Rsd C R (k + 1) σ') := by
  obtain ⟨l0, L⟩ := B
  obtain ⟨r, hr⟩ : ∃ r, R[k]? = some r := ⟨_, List.getElem?_eq_getElem hk⟩
  have A := L.row k r hr
  have hq := prv_get hk
  have hb : decide (k < k) = false := by simp
  have Ae := A.exc
  rw [hb] at Ae
  have LR : LawS C (σ.hp.set r.e (.exc C (some r.n) (.tup [r.M.v]) true)) R (fun i _ => prv R i) (fun i => decide (i < k + 1)) := L.raise hr (by simp) fun i hi => by
    by_cases h : i < k
    · simp [h]; omega
    · simp [h]; omega
  have AR := LR.row k r hr
  have PR := LR.row _ _ hq
  have hbr : decide (k < k + 1) = true := by simp
  rw [hbr] at AR
  refine XV.cons ?_
  refine XV.tryRaise hd hfr htop ?_
  refine subAt (lk_ne l0 (by decide)) lk_eq L hr (by decide) rfl ?_
  refine ⟨r.e, C, some r.n, .tup [r.M.v], ["ValueError", "LookupError", "OSError", "SyntaxError", "RuntimeError", "TypeError"], _, rfl, Ae, Z.cls, K.ofType, ?_, ?_, rfl, ?_, ?_, ?_⟩
  · intro T hT
    simp at hT
    rcases hT with rfl | rfl | rfl | rfl | rfl | rfl <;> (rw [isSubtype_type]; kernel_rfl)
  · intro T hT
    simp at hT
    rcases hT with rfl | rfl | rfl | rfl | rfl | rfl <;> simp
  · refine KV.tuple (us := ["ValueError", "LookupError", "OSError", "SyntaxError", "RuntimeError", "TypeError"].map Value.type) (show (6 : Nat) ≤ 1000 by decide) ?_ fun a n h e => ⟨a, n, rfl, e⟩
    refine KVs.cons (.type "ValueError") (KV.gbi K.g1 Boot.«ValueError» (by decide) fun _ => rfl) ?_
    refine KVs.cons (.type "LookupError") (KV.gbi K.g2 Boot.«LookupError» (by decide) fun _ => rfl) ?_
    refine KVs.cons (.type "OSError") (KV.gbi K.g3 Boot.«OSError» (by decide) fun _ => rfl) ?_
    refine KVs.cons (.type "SyntaxError") (KV.gbi K.g4 Boot.«SyntaxError» (by decide) fun _ => rfl) ?_
    refine KVs.cons (.type "RuntimeError") (KV.gbi K.g5 Boot.«RuntimeError» (by decide) fun _ => rfl) ?_
    refine KVs.cons (.type "TypeError") (KV.gbi K.g6 Boot.«TypeError» (by decide) fun _ => rfl) ?_
    exact KVs.nil fun _ => rfl
  · exact KV.glob Z.gC fun _ => rfl
  · intro a
    show XV (held c a) 59 _ _ ⟨put "caught" (.ref r.e) (put "k" (.int (k : Nat)) σ.loc), σ.hp.set r.e (.exc C (some r.n) (.tup [r.M.v]) true)⟩ _
    generalize σ.hp.set r.e (O.exc C (some r.n) (.tup [r.M.v]) true) = H at LR AR PR
    have m0 : at_ (put "caught" (.ref r.e) (put "k" (.int (k : Nat)) σ.loc)) "made" = some (.ref 2) := lk_ne (lk_ne l0 (by decide)) (by decide)
    have mk' : at_ (put "caught" (.ref r.e) (put "k" (.int (k : Nat)) σ.loc)) "k" = some (.int (k : Nat)) := lk_ne lk_eq (by decide)
    have mc : at_ (put "caught" (.ref r.e) (put "k" (.int (k : Nat)) σ.loc)) "caught" = some (.ref r.e) := lk_eq
    generalize put "caught" (V.ref r.e) (put "k" (.int (k : Nat)) σ.loc) = loc' at m0 mk' mc
    refine XV.cons ?_
    refine XV.ifB ?_
    refine TV.not_ ?_
    refine TV.plain ?_
    refine EV.call 6 W.g W.k ?_
    refine EVs.cons ?_
    refine EV.var mc ?_
    refine EVs.cons ?_
    refine subPrev m0 mk' LR hk ?_
    refine EVs.cons ?_
    refine EV.sub ?_
    refine EV.sub ?_
    refine subAt m0 mk' LR hr (by decide) rfl ?_
    refine EV.cint ?_
    refine OV2.item AR.lst (by decide) (v := r.M.t) rfl (show (3 : Nat) < 2 ^ 62 by decide) ?_
    refine EV.cint ?_
    refine OV2.itemT (by decide) (v := r.M.v) rfl (show (2 : Nat) < 2 ^ 62 by decide) ?_
    refine EVs.nil ?_
    refine (lawWhole (c := held c a) Z W AR.exc AR.ns PR.lst PR.okr.1 PR.okr.2.1 PR.okr.2.2 (like_v r.M)).mono fun v hp' ⟨q1, g, q2⟩ => ?_
    subst q1; subst q2
    refine OT.bool ⟨fun h => (by cases h), fun _ => ?_⟩
    refine XV.nil ?_
    refine XV.nil ?_
    refine XV.nil ⟨rfl, lk_del (by decide) m0, LR.app⟩
end
end Mine
namespace Mine
open PySem PySem.W PyProof.Rows PySem.SeqAt
section
variable {c : Cx} {C aI aD' aS aW aD aF aG : Addr} {Lo fa : Addr} {cd : Value} {cells : List (Str × Addr)} {ρ₁ : List Addr}
noncomputable abbrev hp2 : List O := [.cell none, .cell none]
theorem law {a : Addr} {xs : List Value} {vs : List V} (hd : c.hd = none) (hfr : c.A₀.frames = some []) (htop : (lawFx Lo fa cd cells ρ₁).env = c.top) (Z : ErrK c.K C aI aD' aS) (F : FigK c.K aG) (D : DigK c.K aD) (S : FldK c.K aF) (W : WhlK c.K aW) (K : LawK c.K C) (Sc : Scr c a xs vs) :
    XV c 60 (lawFx Lo fa cd cells ρ₁) (execs (fBody (stmt 7)) (lawFx Lo fa cd cells ρ₁).env) ⟨[("script", .top a)], hp2⟩ Xend := by
  refine XV.cons ?_
  refine XV.assign ?_
  refine EV.list ?_
  refine EVs.nil ⟨(show (0 : Nat) ≤ 1000 by decide), ?_⟩
  refine XV.st2 (loc' := [("script", .top a), ("made", .ref 2)]) (hp' := hp2 ++ [.list []]) rfl rfl ?_
  refine XV.cons ?_
  refine XV.forTup ?_
  refine EV.call 2 F.gF F.kF ?_
  refine EVs.cons ?_
  refine EV.var rfl ?_
  refine EVs.nil ?_
  refine (lawDraws hd F Sc).mono fun v hp' ⟨Dr, l, g, q1, q2, q3, q4, q5, q6, q7⟩ => ?_
  subst q1; subst q2
  have hl2 : l ≠ 2 := by have : 3 ≤ l := q4; omega
  have L0 : LawS C (hp2 ++ [.list []]) [] (fun _ r => r) (fun _ => false) := ⟨rfl, fun i r h => by simp at h, fun i k r r' h => by simp at h, fun i k r r' h => by simp at h, ⟨_, rfl⟩, ⟨_, rfl⟩, by simp⟩
  refine ⟨l, drs Dr, rfl, q3, fun i σ => Built C i σ ∧ σ.hp[l]? = some (.list (drs Dr)), ⟨⟨[], rfl, rfl, L0.app⟩, q3⟩, fun _ _ h => h.2, ?_, ?_⟩
  · intro ρ₂ hρ₂ i σ hi ⟨B, hσ⟩
    rw [drs_len] at hi
    obtain ⟨p, hp1, hp2⟩ : ∃ p, (drs Dr).getD i .none = drV p ∧ DrOk p := by
      refine ⟨Dr[i], ?_, q7 _ (List.getElem_mem hi)⟩
      unfold drs
      rw [List.getD_eq_getElem?_getD, List.getElem?_map, List.getElem?_eq_getElem hi]; rfl
    rw [hp1]
    obtain ⟨⟨v0, h0⟩, ⟨v1, h1⟩⟩ : (∃ v, σ.hp[0]? = some (.cell v)) ∧ ∃ v, (σ.hp.set 0 (.cell (some (.int (p.1 : Nat)))))[1]? = some (.cell v) := by
      obtain ⟨R, _, _, L⟩ := B
      exact ⟨L.c0, (L.cell (x := some (.int (p.1 : Nat))) L.c0).c1⟩
    refine OU1.tuple rfl ?_
    show OU1 _ _ _ _ _ _ _
    refine OU1.nameC (i := 0) rfl h0 ?_
    show OU1 _ _ _ _ _ _ _
    refine OU1.nameC (i := 1) rfl h1 ?_
    show XV _ _ _ _ _ _
    refine (turnB (ρ₁ := ρ₂) hd Z D S K hp2.1 hp2.2 (by omega) B hl2 hσ).mono ?_
    rintro f σ' ⟨rfl, B', hσ'⟩
    exact ⟨B', hσ'⟩
  rintro σ ⟨⟨R, l0, len, L⟩, _⟩
  rw [drs_len] at len
  have h0 : 0 < R.length := by omega
  have hf := L.few
  refine XV.cons ?_
  refine XV.forTup ?_
  refine EV.var l0 ?_
  refine ⟨2, _, rfl, L.made, fun _ σ => at_ σ.loc "made" = some (.ref 2) ∧ LawS C σ.hp R (fun _ r => r) (fun _ => false), ⟨l0, L⟩, fun _ _ h => h.2.made, ?_, ?_⟩
  · intro ρ₂ hρ₂ i σ hi ⟨l0, L⟩
    rw [List.length_map] at hi
    obtain ⟨r, hr, e1⟩ := rows_getD hi
    have A := L.row i r hr
    rw [e1]
    refine OU1.tuple rfl ?_
    show OU1 _ _ _ _ _ _ _
    refine OU1.name ?_
    show OU1 _ _ _ _ _ _ _
    refine OU1.name ?_
    show XV c 60 _ _ ⟨put "fields" (.ref r.j) (put "error" (.ref r.e) σ.loc), σ.hp⟩ _
    refine XV.cons ?_
    refine XV.ifB ?_
    refine TV.not_ ?_
    refine TV.plain ?_
    refine EV.call 6 W.g W.k ?_
    refine EVs.cons ?_
    refine EV.var (lk_ne lk_eq (by decide)) ?_
    refine EVs.cons ?_
    refine EV.var lk_eq ?_
    refine EVs.cons ?_
    refine EV.sub ?_
    refine EV.sub ?_
    refine EV.var lk_eq ?_
    refine EV.cint ?_
    refine OV2.item A.lst (by decide) (v := r.M.t) rfl (show (3 : Nat) < 2 ^ 62 by decide) ?_
    refine EV.cint ?_
    refine OV2.itemT (by decide) (v := r.M.v) rfl (show (2 : Nat) < 2 ^ 62 by decide) ?_
    refine EVs.nil ?_
    refine (lawWhole Z W A.exc A.ns A.lst A.okr.1 A.okr.2.1 A.okr.2.2 (like_v r.M)).mono fun v hp' ⟨q1, g, q2⟩ => ?_
    subst q1; subst q2
    refine OT.bool ⟨fun h => (by cases h), fun _ => ?_⟩
    refine XV.nil ?_
    exact XV.nil ⟨lk_ne (lk_ne l0 (by decide)) (by decide), L.app⟩
  rintro σ ⟨l0, L⟩
  refine XV.cons ?_
  refine XV.forS ?_
  refine EV.callT K.gRange Boot.«range» (by decide) ?_
  refine EVs.cons ?_
  refine EV.callB K.gLen Boot.«len» (by decide) ?_
  refine EVs.cons ?_
  refine EV.var l0 ?_
  refine EVs.nil ?_
  refine OVs.len_list L.made (by rw [List.length_map]; omega) ?_
  rw [List.length_map]
  refine EVs.nil ?_
  refine OVs.range1 ?_
  refine ⟨R.length, _, _, Src.upto hd ga (by omega), fun i => Chg C R i, ⟨l0, ?_⟩, fun _ _ _ => trivial, ?_, ?_⟩
  · have L' := L.app (g := [.rng 0 (R.length : Nat) 1])
    exact ⟨L'.made, fun i r h => L'.row i r h, L'.dn, L'.de, L'.c0, L'.c1, L'.few⟩
  · intro ρ₂ hρ₂ i σ hi B
    refine OU1.name ?_
    refine (turnCh (ρ₁ := ρ₂) Z hi B).mono ?_
    rintro f σ' ⟨rfl, B'⟩
    exact B'
  rintro σ ⟨l0, L⟩
  refine XV.cons ?_
  refine XV.forS ?_
  refine EV.callT K.gRange Boot.«range» (by decide) ?_
  refine EVs.cons ?_
  refine EV.callB K.gLen Boot.«len» (by decide) ?_
  refine EVs.cons ?_
  refine EV.var l0 ?_
  refine EVs.nil ?_
  refine OVs.len_list L.made (by rw [List.length_map]; omega) ?_
  rw [List.length_map]
  refine EVs.nil ?_
  refine OVs.range1 ?_
  refine ⟨R.length, _, _, Src.upto hd ga (by omega), fun i => Rsd C R i, ⟨l0, ?_⟩, fun _ _ _ => trivial, ?_, ?_⟩
  · have L' := L.app (g := [.rng 0 (R.length : Nat) 1])
    refine ⟨L'.made, fun i r h => ?_, L'.dn, L'.de, L'.c0, L'.c1, L'.few⟩
    have A := L'.row i r h
    have e : curC R R.length i r = prv R i := if_pos (List.getElem?_eq_some_iff.mp h).1
    rw [e] at A
    exact A
  · intro ρ₂ hρ₂ i σ hi B
    refine OU1.name ?_
    refine (turnR (ρ₁ := ρ₂) hd hfr htop Z W K hi B).mono ?_
    rintro f σ' ⟨rfl, B'⟩
    exact B'
  rintro σ _
  refine XV.cons ?_
  refine XV.ret ?_
  exact EV.cbool rfl
end
end Mine
namespace Mine
open PySem PySem.W PyProof.Rows PySem.SeqAt
theorem ints_rel : ∀ {xs : List Value} {ns : List Int}, IntsAre xs ns → ∀ ρ h, VRs ρ h (ns.map V.int) xs
  | _, _, .nil, _, _ => .nil
  | _, _, .cons n t r, ρ, h => .cons (.int n t) (ints_rel r ρ h)
theorem start {prog : Program} {w : World} {K : Frag} {G h₁ : Heap} {p : Program} {loose : List Str} {mean : ExcName → Option Value} {mg mb : Str → Option Value} {L a fa c1 c2 : Addr} {w1 w2 : Obj} {n1 n2 : Str} {m : Str → Option Value} {cd : Value} {g : Array GenState} {dr : Drawn} {tk : Tok} {os : OsState} {A A₀ : Around} {top : Env} {d : Nat} {qual : Str} {scope : Scope} {body : List Stmt}
    (X : K.In G) (T : Top p loose mean mg mb G) (F : Fr G L h₁ m) (N : News G L h₁ [(c2, w2), (c1, w1)]) (hd1 : w1.data = .cell none) (hd2 : w2.data = .cell none) (ho2 : c1 < c2) (hm : m "script" = some (.ref a)) (R : Room ⟨prog, w, K, G, p, loose, mg, mb, g, os, A₀, top, none⟩ d A) (hk : scope.kind = .function)
    (h : XV ⟨prog, w, K, G, p, loose, mg, mb, g, os, A₀, top, none⟩ d ⟨envX qual scope L fa cd [(n2, c2), (n1, c1)], [(n2, 1), (n1, 0)], [c1, c2]⟩ (execs body (envX qual scope L fa cd [(n2, c2), (n1, c1)])) ⟨[("script", .top a)], [.cell none, .cell none]⟩ (fun f σ => f = .ret (.bool true))) :
    wpAny (model prog w) A (execs body (envX qual scope L fa cd [(n2, c2), (n1, c1)])) (fun f s' => f = .ret (.bool true) ∧ (∃ m', Fr G L s'.heap m') ∧ s'.gens = g ∧ s'.os = os) noE ⟨h₁, g, dr, tk, os⟩ := by
  have ok : Cx.Ok ⟨prog, w, K, G, p, loose, mg, mb, g, os, A₀, top, none⟩ := ⟨X, topRead_of T, T.bmain⟩
  have hN1 := N (c1, w1) (.tail _ (.head _))
  have hN2 := N (c2, w2) (.head _)
  have hL : G.get? L = none := get_none_of_lt F.above
  have rel : RelS ⟨prog, w, K, G, p, loose, mg, mb, g, os, A₀, top, none⟩ ⟨envX qual scope L fa cd [(n2, c2), (n1, c1)], [(n2, 1), (n1, 0)], [c1, c2]⟩ [c1, c2] ⟨[("script", .top a)], [.cell none, .cell none]⟩ ⟨h₁, g, dr, tk, os⟩ := by
    refine ⟨{ toHRel := ⟨F.keep, rfl, by simp; exact (Nat.ne_of_lt ho2), fun b hb => ?_, fun i b o e1 e2 => ?_, fun b e => by cases e⟩, ok := ok, loc := ⟨m, F.ns, fun x v e => ?_⟩, lfresh := hL, lapart := ?_, pre := List.prefix_refl _, glob := rfl, bltn := rfl, kind := hk, cells := ⟨rfl, rfl, ⟨rfl, rfl, trivial⟩⟩ }, rfl, rfl⟩
    · simp at hb; rcases hb with rfl | rfl
      · exact hN1.2.2
      · exact hN2.2.2
    · match i, e1, e2 with
      | 0, e1, e2 => simp at e1 e2; subst e1; subst e2; exact ⟨_, hN1.1, none, hd1, trivial⟩
      | 1, e1, e2 => simp at e1 e2; subst e1; subst e2; exact ⟨_, hN2.1, none, hd2, trivial⟩
      | i + 2, e1, e2 => simp at e1
    · rw [List.lookup_cons] at e
      cases hb : x == ("script" : Str) with
      | true =>
        rw [hb] at e; cases e
        rw [beq_iff_eq.mp hb]
        exact ⟨_, hm, .top a⟩
      | false => rw [hb] at e; cases e
    · intro q; simp at q; rcases q with q | q
      · exact hN1.2.1 q.symm
      · exact hN2.2.1 q.symm
  refine wpAny_mono (h [c1, c2] _ A R rel) ?_ fun _ _ z => z
  rintro x s' ⟨ρ', f, σ', e, r, hf, rfl⟩
  cases hf with
  | ret hv =>
    cases hv
    obtain ⟨m', hm', _⟩ := r.1.loc
    exact ⟨rfl, ⟨m', hm', r.1.keep, F.above⟩, r.2.1, r.2.2⟩
end Mine
open PySem PySem.W PyProof.Rows
namespace Mine
open_top hd for PySem.Challenge.rw_dm0214_01
end Mine
open PySem PySem.W PyProof.Rows
namespace Mine
theorem excK_of (P : Params) : ExcK (hd.heap_39 P) 39 := ⟨by kernel_rfl, by kernel_rfl, by kernel_rfl, by kernel_rfl, by kernel_rfl⟩
theorem fI_of (P : Params) : FnKd (hd.heap_39 P) 29 22 "NetrcParseError.__init__" (meth 0) [.none, .none] := ⟨⟨_, _, _, _, _, _, _, _, by with_unfolding_all rfl, by kernel_rfl⟩, _, _, _, _, by with_unfolding_all rfl⟩
theorem fS_of (P : Params) : FnK (hd.heap_39 P) 36 "NetrcParseError.__str__" (meth 1) := ⟨_, _, _, _, _, _, _, by with_unfolding_all rfl, by kernel_rfl⟩
theorem errK_of (P : Params) : ErrK (hd.heap_39 P) 39 29 22 36 where
  cls := excK_of P
  makes := by kernel_rfl
  gC := by kernel_rfl
  kC := by kernel_rfl
  init := by kernel_rfl
  tI := by kernel_rfl
  fI := fI_of P
  st := by kernel_rfl
  tS := by kernel_rfl
  fS := fS_of P
  a1 := by kernel_rfl
  a2 := by kernel_rfl
  a3 := by kernel_rfl
  ar := by kernel_rfl
  gE := by kernel_rfl
theorem fF_of (P : Params) : FnK (hd.heap_39 P) 49 "_law_draws" (stmt 3) := ⟨_, _, _, _, _, _, _, by with_unfolding_all rfl, by kernel_rfl⟩
theorem fD_of (P : Params) : FnK (hd.heap_39 P) 56 "_law_digits" (stmt 4) := ⟨_, _, _, _, _, _, _, by with_unfolding_all rfl, by kernel_rfl⟩
theorem fP_of (P : Params) : FnK (hd.heap_39 P) 63 "_law_field" (stmt 5) := ⟨_, _, _, _, _, _, _, by with_unfolding_all rfl, by kernel_rfl⟩
theorem fW_of (P : Params) : FnK (hd.heap_39 P) 68 "_law_whole" (stmt 6) := ⟨_, _, _, _, _, _, _, by with_unfolding_all rfl, by kernel_rfl⟩
theorem figK_of (P : Params) : FigK (hd.heap_39 P) 49 := ⟨by kernel_rfl, by kernel_rfl, fF_of P, by kernel_rfl, by kernel_rfl⟩
theorem digK_of (P : Params) : DigK (hd.heap_39 P) 56 := ⟨by kernel_rfl, by kernel_rfl, fD_of P⟩
theorem fldK_of (P : Params) : FldK (hd.heap_39 P) 63 := ⟨by kernel_rfl, by kernel_rfl, fP_of P⟩
theorem whlK_of (P : Params) : WhlK (hd.heap_39 P) 68 := ⟨by kernel_rfl, by kernel_rfl, fW_of P, by kernel_rfl⟩
theorem lawK_of (P : Params) : LawK (hd.heap_39 P) 39 := ⟨by kernel_rfl, by kernel_rfl, by kernel_rfl, by kernel_rfl, by kernel_rfl, by kernel_rfl, by kernel_rfl, by kernel_rfl, by kernel_rfl⟩
theorem room_caller {c : Cx} {env : Env} (h : c.hd = none) (h1 : c.A₀ = callerA) (h2 : c.top = env) : Room c 60 (callerA.deeper env) := ⟨by rw [h]; rfl, by show (302 : Nat) + 180 < 990; decide, by show (7 : Nat) + 1800 < 9800; decide, Nat.le_refl _, fun _ => by rw [h1, h2], rfl⟩
end Mine
theorem PySem.Challenge.cw_dm0214_01_holds : PySem.Challenge.rw_dm0214_01.Holds :=
  Mine.hd (by
  k_go0
  rename Frag.In _ _ => X
  rename Top _ _ _ _ _ _ => T
  rename Fr _ _ _ _ => F
  rename News _ _ _ _ => N
  rename IntsAre _ _ => hI
  rename (_ = #[]) => hg
  refine wpAny_mono (Mine.start (d := 60) (A₀ := callerA) (body := Mine.fBody (Mine.stmt 7)) (qual := "law") (scope := Mine.fScope (Mine.stmt 7)) X T F N (by assumption) (by assumption) (Nat.lt_succ_self _) (by rfl) (Mine.room_caller rfl rfl rfl) rfl (Mine.law rfl rfl rfl (Mine.errK_of _) (Mine.figK_of _) (Mine.digK_of _) (Mine.fldK_of _) (Mine.whlK_of _) (Mine.lawK_of _) ⟨by assumption, Mine.ints_rel hI, fun v hv => ?_⟩)) ?_ fun _ _ z => z.elim
  · obtain ⟨n, _, rfl⟩ := List.mem_map.mp hv
    exact ⟨n, rfl⟩
  · rintro f s' ⟨rfl, ⟨m', F'⟩, h1, h2⟩
    refine goodW_bool F' (h1.trans hg) (fun _ => rfl) ?_ h2
    wrow_post)
