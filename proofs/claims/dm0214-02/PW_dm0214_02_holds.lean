import PyProof.Rows.All
import Wide.All
import OpenK.AllK
import Wide.FinOn
import PyProof.FString5
import PyProof.NeKinds
import PyProof.ListCopy
import KE.KFmtOwn
import KE.KIntText
import PySem.Challenge.RW_dm0214_02
set_option Elab.async false
set_option maxRecDepth 100000
set_option maxHeartbeats 8000000
set_option linter.unusedVariables false
set_option linter.unusedSimpArgs false
namespace Mine
open PySem PySem.W PyProof.Rows

inductive V where
  | none
  | bool (b : Bool)
  | int (i : Int)
  | str (l : List Nat)
  | bi (id : String)
  | ty (n : String)
  | top (a : Addr)
  | ref (i : Nat)
  | tup (vs : List V)
  | meth (f self : V)

noncomputable abbrev tupObj (xs : Array Value) (n : Nat) : Obj := { cls := .type "tuple", data := .seq xs n }

mutual
inductive VR (ρ : List Addr) (h : Heap) : V → Value → Prop
  | none : VR ρ h .none .none
  | bool (b : Bool) : VR ρ h (.bool b) (.bool b)
  | int (i : Int) (t : Tok) : VR ρ h (.int i) (.int i t)
  | str {l : List Nat} {x : Str} (t : Tok) : x.cps.toList = l → VR ρ h (.str l) (.str x t)
  | bi (id : String) : VR ρ h (.bi id) (.builtin id)
  | ty (n : String) : VR ρ h (.ty n) (.type n)
  | top (a : Addr) : VR ρ h (.top a) (.ref a)
  | ref {i : Nat} {a : Addr} : ρ[i]? = some a → VR ρ h (.ref i) (.ref a)
  | tup {a : Addr} {vs : List V} {xs : List Value} {n : Nat} : h.get? a = some (tupObj xs.toArray n) → VRs ρ h vs xs → VR ρ h (.tup vs) (.ref a)
  | meth {a : Addr} {f self : V} {f' self' : Value} : h.get? a = some (methodObj f' self') → VR ρ h f f' → VR ρ h self self' → VR ρ h (.meth f self) (.ref a)
inductive VRs (ρ : List Addr) (h : Heap) : List V → List Value → Prop
  | nil : VRs ρ h [] []
  | cons {v : V} {x : Value} {vs : List V} {xs : List Value} : VR ρ h v x → VRs ρ h vs xs → VRs ρ h (v :: vs) (x :: xs)
end

theorem VR.refC {ρ : List Addr} {h : Heap} {i : Nat} {motive : ∀ x : Value, VR ρ h (.ref i) x → Prop} (ref : ∀ {a : Addr} (ha : ρ[i]? = some a), motive (.ref a) (.ref ha)) {x : Value} (v : VR ρ h (.ref i) x) : motive x v := by cases v; exact ref ‹_›
theorem VR.intC {ρ : List Addr} {h : Heap} {i : Int} {motive : ∀ x : Value, VR ρ h (.int i) x → Prop} (int : ∀ t : Tok, motive (.int i t) (.int i t)) {x : Value} (v : VR ρ h (.int i) x) : motive x v := by cases v; exact int _
theorem VR.strC {ρ : List Addr} {h : Heap} {l : List Nat} {motive : ∀ x : Value, VR ρ h (.str l) x → Prop} (str : ∀ {y : Str} (t : Tok) (e : y.cps.toList = l), motive (.str y t) (.str t e)) {x : Value} (v : VR ρ h (.str l) x) : motive x v := by cases v; exact str _ ‹_›
theorem VR.boolC {ρ : List Addr} {h : Heap} {b : Bool} {motive : ∀ x : Value, VR ρ h (.bool b) x → Prop} (bool : motive (.bool b) (.bool b)) {x : Value} (v : VR ρ h (.bool b) x) : motive x v := by cases v; exact bool
theorem VR.noneC {ρ : List Addr} {h : Heap} {motive : ∀ x : Value, VR ρ h .none x → Prop} (none : motive .none .none) {x : Value} (v : VR ρ h .none x) : motive x v := by cases v; exact none
theorem VR.topC {ρ : List Addr} {h : Heap} {a : Addr} {motive : ∀ x : Value, VR ρ h (.top a) x → Prop} (top : motive (.ref a) (.top a)) {x : Value} (v : VR ρ h (.top a) x) : motive x v := by cases v; exact top
theorem VR.tupC {ρ : List Addr} {h : Heap} {vs : List V} {motive : ∀ x : Value, VR ρ h (.tup vs) x → Prop} (tup : ∀ {a : Addr} {xs : List Value} {n : Nat} (e : h.get? a = some (tupObj xs.toArray n)) (r : VRs ρ h vs xs), motive (.ref a) (.tup e r)) {x : Value} (v : VR ρ h (.tup vs) x) : motive x v := by cases v; exact tup ‹_› ‹_›
theorem VRs.consC {ρ : List Addr} {h : Heap} {v : V} {vs : List V} {motive : ∀ xs : List Value, VRs ρ h (v :: vs) xs → Prop} (cons : ∀ {x : Value} {xs : List Value} (v1 : VR ρ h v x) (v2 : VRs ρ h vs xs), motive (x :: xs) (.cons v1 v2)) {xs : List Value} (w : VRs ρ h (v :: vs) xs) : motive xs w := by cases w; exact cons ‹_› ‹_›
theorem VRs.nilC {ρ : List Addr} {h : Heap} {motive : ∀ xs : List Value, VRs ρ h [] xs → Prop} (nil : motive [] .nil) {xs : List Value} (w : VRs ρ h [] xs) : motive xs w := by cases w; exact nil

noncomputable def Fix (o : Obj) : Prop := (∃ xs n, o = tupObj xs n) ∨ (∃ f self, o = methodObj f self) ∨ (o.cls = .type "code" ∧ ∃ vs, o.data = .fields vs)
noncomputable def ImmKeep (h h' : Heap) : Prop := ∀ a o, Fix o → h.get? a = some o → h'.get? a = some o
theorem ImmKeep.refl (h : Heap) : ImmKeep h h := fun _ _ _ e => e
theorem pre_get {ρ ρ' : List Addr} (p : ρ <+: ρ') {i : Nat} {a : Addr} (e : ρ[i]? = some a) : ρ'[i]? = some a := by
  obtain ⟨t, rfl⟩ := p
  rw [List.getElem?_append_left (List.getElem?_eq_some_iff.mp e).1]; exact e

mutual
theorem VR.mono {ρ ρ' : List Addr} {h h' : Heap} (p : ρ <+: ρ') (k : ImmKeep h h') : ∀ {v : V} {x : Value}, VR ρ h v x → VR ρ' h' v x
  | _, _, .none => .none
  | _, _, .bool b => .bool b
  | _, _, .int i t => .int i t
  | _, _, .str t e => .str t e
  | _, _, .bi i => .bi i
  | _, _, .ty i => .ty i
  | _, _, .top i => .top i
  | _, _, .ref e => .ref (pre_get p e)
  | _, _, .tup e r => .tup (k _ _ (.inl ⟨_, _, rfl⟩) e) (VRs.mono p k r)
  | _, _, .meth e r1 r2 => .meth (k _ _ (.inr (.inl ⟨_, _, rfl⟩)) e) (VR.mono p k r1) (VR.mono p k r2)
theorem VRs.mono {ρ ρ' : List Addr} {h h' : Heap} (p : ρ <+: ρ') (k : ImmKeep h h') : ∀ {v : List V} {x : List Value}, VRs ρ h v x → VRs ρ' h' v x
  | _, _, .nil => .nil
  | _, _, .cons r1 r2 => .cons (VR.mono p k r1) (VRs.mono p k r2)
end

theorem VRs.length {ρ : List Addr} {h : Heap} : ∀ {v : List V} {x : List Value}, VRs ρ h v x → v.length = x.length
  | _, _, .nil => rfl
  | _, _, .cons _ r => congrArg (· + 1) r.length
theorem VRs.append {ρ : List Addr} {h : Heap} : ∀ {v : List V} {x : List Value} {v' : List V} {x' : List Value}, VRs ρ h v x → VRs ρ h v' x' → VRs ρ h (v ++ v') (x ++ x')
  | _, _, _, _, .nil, r => r
  | _, _, _, _, .cons a b, r => .cons a (b.append r)
theorem VRs.get {ρ : List Addr} {h : Heap} : ∀ {v : List V} {x : List Value}, VRs ρ h v x → ∀ {i : Nat} {u : V}, v[i]? = some u → ∃ y, x[i]? = some y ∧ VR ρ h u y
  | _, _, .cons a _, 0, _, e => by cases e; exact ⟨_, rfl, a⟩
  | _, _, .cons _ b, i + 1, u, e => by simpa using VRs.get b (i := i) (by simpa using e)
theorem VRs.set {ρ : List Addr} {h : Heap} : ∀ {v : List V} {x : List Value}, VRs ρ h v x → ∀ {i : Nat} {u : V} {y : Value}, VR ρ h u y → VRs ρ h (v.set i u) (x.set i y)
  | _, _, .nil, _, _, _, _ => .nil
  | _, _, .cons _ b, 0, _, _, r => .cons r b
  | _, _, .cons a b, _ + 1, _, _, r => .cons a (b.set r)
structure FnLit where
  name : Str
  qual : Str
  params : Arguments
  body : List Stmt
  scope : Scope

inductive O where
  | list (vs : List V)
  | ns (kvs : List (Str × V))
  | inst (C : Addr) (d : Nat)
  | cell (v : Option V)
  | fn (f : FnLit) (cl : List (Str × Nat))
  | citer (st : Option (V × V))
  | tab (P : Addr) (i : Nat) (c : List (Pos × Str))
  | rng (a b st : Int)
  | di (i : Nat) (prog : Program) (w : World) (kvs : List (Int × V))
  | ds (i : Nat) (prog : Program) (w : World) (kvs : List (Str × V))
  | view (d : Nat)
  | exc (C : Addr) (d : Option Nat) (args : V) (raised : Bool)

noncomputable def NsR (ρ : List Addr) (h : Heap) : List (Str × V) → List DictEntry → Prop
  | [], [] => True
  | (n, v) :: r, e :: es => (∃ t, e.key = .str n t) ∧ VR ρ h v e.val ∧ NsR ρ h r es
  | _, _ => False
noncomputable def ClR (ρ : List Addr) : List (Str × Nat) → List (Str × Addr) → Prop
  | [], [] => True
  | (n, i) :: r, (m, a) :: es => n = m ∧ ρ[i]? = some a ∧ ClR ρ r es
  | _, _ => False
theorem NsR.mono {ρ ρ' : List Addr} {h h' : Heap} (p : ρ <+: ρ') (k : ImmKeep h h') : ∀ {v : List (Str × V)} {x : List DictEntry}, NsR ρ h v x → NsR ρ' h' v x
  | [], [], _ => trivial
  | (_, _) :: _, _ :: _, r => ⟨r.1, r.2.1.mono p k, NsR.mono p k r.2.2⟩
  | (_, _) :: _, [], r => r.elim
  | [], _ :: _, r => r.elim
theorem ClR.mono {ρ ρ' : List Addr} (p : ρ <+: ρ') : ∀ {v : List (Str × Nat)} {x : List (Str × Addr)}, ClR ρ v x → ClR ρ' v x
  | [], [], _ => trivial
  | (_, _) :: _, (_, _) :: _, r => ⟨r.1, pre_get p r.2.1, ClR.mono p r.2.2⟩
  | (_, _) :: _, [], r => r.elim
  | [], _ :: _, r => r.elim
noncomputable def PR {K : Type} (ρ : List Addr) (h : Heap) : List (K × V) → List (K × Value) → Prop
  | [], [] => True
  | (k, v) :: r, (k', x) :: xs => k = k' ∧ VR ρ h v x ∧ PR ρ h r xs
  | _, _ => False
theorem PR.mono {K : Type} {ρ ρ' : List Addr} {h h' : Heap} (p : ρ <+: ρ') (k : ImmKeep h h') : ∀ {v : List (K × V)} {x : List (K × Value)}, PR ρ h v x → PR ρ' h' v x
  | [], [], _ => trivial
  | (_, _) :: _, (_, _) :: _, r => ⟨r.1, r.2.1.mono p k, PR.mono p k r.2.2⟩
  | (_, _) :: _, [], r => r.elim
  | [], _ :: _, r => r.elim
noncomputable abbrev excObj (C : Addr) (dd : Option Addr) (vs : Array Value) : Obj := { cls := .ref C, dict := dd, data := .fields vs }
noncomputable def DictR (ρ : List Addr) : Option Nat → Option Addr → Prop
  | some i, some a => ρ[i]? = some a
  | none, none => True
  | _, _ => False
theorem DictR.mono {ρ ρ' : List Addr} (p : ρ <+: ρ') : ∀ {d : Option Nat} {dd : Option Addr}, DictR ρ d dd → DictR ρ' d dd
  | some _, some _, e => pre_get p e
  | none, none, _ => trivial
  | some _, none, e => e.elim
  | none, some _, e => e.elim
noncomputable abbrev viewObj (a : Addr) : Obj := { cls := .type "dict_items", data := .fields #[.ref a] }
theorem ClR.look {ρ : List Addr} : ∀ {v : List (Str × Nat)} {x : List (Str × Addr)}, ClR ρ v x → ∀ {n : Str} {i : Nat}, v.lookup n = some i → ∃ a, x.lookup n = some a ∧ ρ[i]? = some a
  | [], [], _, _, _, e => by cases e
  | (k, j) :: v, (k', a) :: x, r, n, i, e => by
    obtain ⟨rfl, h1, h2⟩ := r
    rw [List.lookup_cons] at e ⊢
    cases hb : n == k with
    | true => rw [hb] at e; cases e; exact ⟨a, rfl, h1⟩
    | false => rw [hb] at e; exact h2.look e
  | (_, _) :: _, [], r, _, _, _ => r.elim
  | [], _ :: _, r, _, _, _ => r.elim

noncomputable abbrev listObj (xs : Array Value) (n : Nat) : Obj := { cls := .type "list", data := .seq xs n }
noncomputable abbrev rngObj (a b st : Int) (t u v : Tok) : Obj := { cls := .type "range", data := .fields #[.int a t, .int b u, .int st v] }
noncomputable abbrev citObj (vs : Array Value) : Obj := { cls := .type "callable_iterator", data := .fields vs }

noncomputable def CodeR (h : Heap) (c : Addr) (q : Str) : Prop := ∃ oc vs t, h.get? c = some oc ∧ oc.cls = .type "code" ∧ oc.data = .fields vs ∧ vs[1]? = some (.str q t)
theorem CodeR.mono {h h' : Heap} {c : Addr} {q : Str} (k : ImmKeep h h') : CodeR h c q → CodeR h' c q
  | ⟨oc, vs, t, e, h1, h2, h3⟩ => ⟨oc, vs, t, k _ _ (.inr (.inr ⟨h1, vs, h2⟩)) e, h1, h2, h3⟩
noncomputable def TabR (h : Heap) : List (Pos × Str) → List Value → Prop
  | [], l => l = []
  | (p, q) :: r, l => ∃ c rest, l = rawInt p.line :: rawInt p.col :: .ref c :: rest ∧ CodeR h c q ∧ TabR h r rest
theorem TabR.mono {h h' : Heap} (k : ImmKeep h h') : ∀ {p : List (Pos × Str)} {l : List Value}, TabR h p l → TabR h' p l
  | [], _, e => e
  | (_, _) :: _, _, ⟨c, rest, e, a, b⟩ => ⟨c, rest, e, a.mono k, b.mono k⟩
noncomputable def OR (ρ : List Addr) (h : Heap) : O → Obj → Prop
  | .list vs, o => ∃ xs n, o = listObj (List.toArray xs) n ∧ VRs ρ h vs xs
  | .ns kvs, o => ∃ es n, o = dictOf es n ∧ NsR ρ h kvs es
  | .inst C d, o => ∃ dx, ρ[d]? = some dx ∧ o = instObj C dx
  | .cell v, o => ∃ x, o.data = .cell x ∧ (match v, x with | some v, some x => VR ρ h v x | none, none => True | _, _ => False)
  | .fn f cl, o => ∃ clos doc pm c ctv, o = { cls := .type "function", data := .func (fnX f.name f.qual f.params f.body f.scope clos .none .none doc pm none (.ref c) ctv) } ∧ ClR ρ cl clos ∧
      CodeR h c f.qual
  | .citer st, o => ∃ x y b, o = citObj #[x, y, .bool b] ∧ (match st with | some (u, v) => b = false ∧ VR ρ h u x ∧ VR ρ h v y | none => b = true)
  | .tab P i p, o => ∃ ps, ρ[i]? = some P ∧ o = tabObj ps ∧ TriplesOk ps.toList ∧ TabR h p ps.toList
  | .rng a b st, o => ∃ t u v, o = rngObj a b st t u v
  | .di i prog w kvs, o => ∃ a xs, ρ[i]? = some a ∧ (a == sysModules) = false ∧ o.IsDictOf (intKind prog w) xs ∧ PR ρ h kvs xs
  | .ds i prog w kvs, o => ∃ a xs, ρ[i]? = some a ∧ (a == sysModules) = false ∧ o.IsDictOf (PySem.strKind prog w) xs ∧ PR ρ h kvs xs
  | .view d, o => ∃ a, ρ[d]? = some a ∧ o = viewObj a
  | .exc C d args b, o => ∃ dd x f1 f2 f3 f4 f5, o = excObj C dd #[x, f1, f2, f3, f4, f5] ∧ VR ρ h args x ∧ DictR ρ d dd ∧ (b = false → f1 = .none ∧ f2 = .none ∧ f3 = .none ∧ f4 = .bool false ∧ f5 = .none)

theorem OR.mono {ρ ρ' : List Addr} {h h' : Heap} (p : ρ <+: ρ') (k : ImmKeep h h') {o : O} {r : Obj} (x : OR ρ h o r) : OR ρ' h' o r := by
  cases o with
  | list vs => obtain ⟨xs, n, e, y⟩ := x; exact ⟨xs, n, e, y.mono p k⟩
  | ns kvs => obtain ⟨es, n, e, y⟩ := x; exact ⟨es, n, e, y.mono p k⟩
  | inst C d => obtain ⟨dx, e, y⟩ := x; exact ⟨dx, pre_get p e, y⟩
  | cell v =>
    obtain ⟨x, e, y⟩ := x
    refine ⟨x, e, ?_⟩
    cases v <;> cases x <;> first | exact y | exact y.mono p k
  | fn f cl => obtain ⟨clos, doc, pm, c, ctv, e, y, z⟩ := x; exact ⟨clos, doc, pm, c, ctv, e, y.mono p, z.mono k⟩
  | citer st =>
    obtain ⟨x, y, b, e, z⟩ := x
    refine ⟨x, y, b, e, ?_⟩
    cases st with
    | none => exact z
    | some uv => exact ⟨z.1, z.2.1.mono p k, z.2.2.mono p k⟩
  | tab P i q =>
    obtain ⟨ps, e0, e, t, z⟩ := x
    exact ⟨ps, pre_get p e0, e, t, z.mono k⟩
  | rng a b st => exact x
  | di i prog w kvs => obtain ⟨a, xs, e1, e2, e3, y⟩ := x; exact ⟨a, xs, pre_get p e1, e2, e3, y.mono p k⟩
  | ds i prog w kvs => obtain ⟨a, xs, e1, e2, e3, y⟩ := x; exact ⟨a, xs, pre_get p e1, e2, e3, y.mono p k⟩
  | view d => obtain ⟨a, e1, e2⟩ := x; exact ⟨a, pre_get p e1, e2⟩
  | exc C d args b => obtain ⟨dd, x, f1, f2, f3, f4, f5, e1, e2, e3, e4⟩ := x; exact ⟨dd, x, f1, f2, f3, f4, f5, e1, e2.mono p k, e3.mono p, e4⟩
theorem OR.notFix {ρ : List Addr} {h : Heap} {o : O} {r : Obj} (x : OR ρ h o r) : ¬ Fix r := by
  intro f
  cases o <;> simp only [OR] at x
  case list => obtain ⟨xs, n, rfl, _⟩ := x; rcases f with ⟨_, _, e⟩ | ⟨_, _, e⟩ | ⟨e, _⟩ <;> simp [listObj, tupObj, methodObj] at e
  case ns => obtain ⟨xs, n, rfl, _⟩ := x; rcases f with ⟨_, _, e⟩ | ⟨_, _, e⟩ | ⟨e, _⟩ <;> simp [dictOf, tupObj, methodObj] at e
  case inst => obtain ⟨dx, _, rfl⟩ := x; rcases f with ⟨_, _, e⟩ | ⟨_, _, e⟩ | ⟨e, _⟩ <;> simp [instObj, tupObj, methodObj] at e
  case cell =>
    obtain ⟨y, e, _⟩ := x
    rcases f with ⟨_, _, rfl⟩ | ⟨_, _, rfl⟩ | ⟨_, vs, e'⟩
    · cases e
    · cases e
    · rw [e'] at e; cases e
  case fn => obtain ⟨_, _, _, _, _, rfl, _⟩ := x; rcases f with ⟨_, _, e⟩ | ⟨_, _, e⟩ | ⟨e, _⟩ <;> simp [tupObj, methodObj] at e
  case citer => obtain ⟨_, _, _, rfl, _⟩ := x; rcases f with ⟨_, _, e⟩ | ⟨_, _, e⟩ | ⟨e, _⟩ <;> simp [tupObj, methodObj, citObj] at e
  case rng => obtain ⟨_, _, _, rfl⟩ := x; rcases f with ⟨_, _, e⟩ | ⟨_, _, e⟩ | ⟨e, _⟩ <;> simp [tupObj, methodObj, rngObj] at e
  case di => obtain ⟨_, _, _, _, ⟨_, _, hd, _⟩, _⟩ := x; rcases f with ⟨_, _, e⟩ | ⟨_, _, e⟩ | ⟨e, _⟩ <;> (have q := hd.1; rw [e] at q; simp [tupObj, methodObj] at q)
  case ds => obtain ⟨_, _, _, _, ⟨_, _, hd, _⟩, _⟩ := x; rcases f with ⟨_, _, e⟩ | ⟨_, _, e⟩ | ⟨e, _⟩ <;> (have q := hd.1; rw [e] at q; simp [tupObj, methodObj] at q)
  case view => obtain ⟨_, _, rfl⟩ := x; rcases f with ⟨_, _, e⟩ | ⟨_, _, e⟩ | ⟨e, _⟩ <;> simp [tupObj, methodObj, viewObj] at e
  case exc => obtain ⟨_, _, _, _, _, _, _, rfl, _⟩ := x; rcases f with ⟨_, _, e⟩ | ⟨_, _, e⟩ | ⟨e, _⟩ <;> simp [tupObj, methodObj, excObj] at e
  case tab => obtain ⟨_, _, rfl, _⟩ := x; rcases f with ⟨_, _, e⟩ | ⟨_, _, e⟩ | ⟨e, _⟩ <;> simp [tupObj, methodObj, tabObj] at e

structure Cx where
  prog : Program
  w : World
  K : Frag
  H₀ : Heap
  p : Program
  loose : List Str
  mg : Str → Option Value
  mb : Str → Option Value
  g₀ : Array GenState
  os₀ : OsState
noncomputable abbrev Cx.M (c : Cx) : Model := model c.prog c.w
structure Cx.Ok (c : Cx) : Prop where
  k : c.K.In c.H₀
  t : TopRead c.p c.loose c.mg c.mb c.H₀
  bm : ∃ bm ob, c.mg "__builtins__" = some (.ref bm) ∧ bm ≠ builtinsNs ∧ c.H₀.get? bm = some ob ∧ ob.cls = .type "module" ∧ ob.dict = some builtinsNs ∧ ob.data = .plain

structure St where
  loc : List (Str × V)
  hp : List O

structure Fx where
  env : Env
  cl : List (Str × Nat)
  ρ₀ : List Addr

noncomputable def Keep (S : List Addr) (h h' : Heap) : Prop := ∀ b o, b ∉ S → h.get? b = some o → h'.get? b = some o

structure HRel (c : Cx) (ρ : List Addr) (hp : List O) (h : Heap) : Prop where
  keep : ∀ b o, c.H₀.get? b = some o → h.get? b = some o
  len : ρ.length = hp.length
  nodup : ρ.Nodup
  fresh : ∀ a ∈ ρ, c.H₀.get? a = none
  obj : ∀ (i : Nat) (a : Addr) (o : O), ρ[i]? = some a → hp[i]? = some o → ∃ r, h.get? a = some r ∧ OR ρ h o r

structure Rel (c : Cx) (fx : Fx) (ρ : List Addr) (σ : St) (h : Heap) : Prop extends HRel c ρ σ.hp h where
  ok : c.Ok
  loc : ∃ m, h.Ns fx.env.locals m ∧ ∀ x v, σ.loc.lookup x = some v → ∃ u, m x = some u ∧ VR ρ h v u
  lfresh : c.H₀.get? fx.env.locals = none
  lapart : fx.env.locals ∉ ρ
  pre : fx.ρ₀ <+: ρ
  glob : fx.env.globals = mainGlobals
  bltn : fx.env.builtins = builtinsNs
  kind : fx.env.scope.kind = .function
  cells : ClR fx.ρ₀ fx.cl fx.env.cells

noncomputable def RelS (c : Cx) (fx : Fx) (ρ : List Addr) (σ : St) (s : Shared) : Prop := Rel c fx ρ σ s.heap ∧ s.gens = c.g₀ ∧ s.os = c.os₀
noncomputable def HRelS (c : Cx) (ρ : List Addr) (hp : List O) (s : Shared) : Prop := HRel c ρ hp s.heap ∧ s.gens = c.g₀ ∧ s.os = c.os₀

structure Ext (fx : Fx) (ρ : List Addr) (h : Heap) (ρ' : List Addr) (h' : Heap) : Prop where
  new : ∀ a ∈ ρ', a ∈ ρ ∨ h.get? a = none
  keep : Keep (fx.env.locals :: ρ) h h'

structure Room (d : Nat) (A : Around) : Prop where
  handled : A.handled = none
  depth : A.depth + 3 * d < 990
  units : A.units + 30 * d < 9800
theorem Room.le {d d' : Nat} {A : Around} (r : Room d A) (h : d' ≤ d) : Room d' A := ⟨r.1, by have := r.2; omega, by have := r.3; omega⟩
theorem Room.limit {d : Nat} {A : Around} (r : Room d A) : A.depth < recursionLimit := by have := r.2; unfold recursionLimit; omega
theorem Room.c {d : Nat} {A : Around} (r : Room d A) : A.units < cLine := by have := r.3; unfold cLine; omega
theorem Room.in1 {d : Nat} {A : Around} (r : Room (d + 1) A) : Room d A.in1 := ⟨r.1, by have := r.2; simp only [Around.in1_depth]; omega, by have := r.3; simp only [Around.in1_units]; omega⟩
theorem Room.deeper {d : Nat} {A : Around} (r : Room (d + 1) A) (env : Env) : Room d (A.deeper env) := ⟨r.1, by have := r.2; show A.depth + 1 + _ < _; omega, by have := r.3; simp only [Around.deeper_units]; omega⟩

noncomputable abbrev noE : Value → Shared → Prop := fun _ _ => False

inductive Post (c : Cx) (fx : Fx) (ρ : List Addr) (s : Shared) (Q : V → St → Prop) (x : Value) (s' : Shared) : Prop
  | mk (ρ' : List Addr) (v : V) (σ' : St) (p : ρ <+: ρ') (e : Ext fx ρ s.heap ρ' s'.heap) (r : RelS c fx ρ' σ' s') (hv : VR ρ' s'.heap v x) (q : Q v σ') : Post c fx ρ s Q x s'
inductive Posts (c : Cx) (fx : Fx) (ρ : List Addr) (s : Shared) (Q : List V → St → Prop) (x : List Value) (s' : Shared) : Prop
  | mk (ρ' : List Addr) (v : List V) (σ' : St) (p : ρ <+: ρ') (e : Ext fx ρ s.heap ρ' s'.heap) (r : RelS c fx ρ' σ' s') (hv : VRs ρ' s'.heap v x) (q : Q v σ') : Posts c fx ρ s Q x s'
inductive PostU {α : Type} (c : Cx) (fx : Fx) (ρ : List Addr) (s : Shared) (Q : α → St → Prop) (x : α) (s' : Shared) : Prop
  | mk (ρ' : List Addr) (σ' : St) (p : ρ <+: ρ') (e : Ext fx ρ s.heap ρ' s'.heap) (r : RelS c fx ρ' σ' s') (q : Q x σ') : PostU c fx ρ s Q x s'

inductive Fl where
  | next | brk | cont
  | ret (v : V)
inductive FR (ρ : List Addr) (h : Heap) : Fl → Flow → Prop
  | next : FR ρ h .next .next
  | brk : FR ρ h .brk .brk
  | cont : FR ρ h .cont .cont
  | ret {v : V} {x : Value} : VR ρ h v x → FR ρ h (.ret v) (.ret x)
inductive PostX (c : Cx) (fx : Fx) (ρ : List Addr) (s : Shared) (Q : Fl → St → Prop) (x : Flow) (s' : Shared) : Prop
  | mk (ρ' : List Addr) (f : Fl) (σ' : St) (e : Ext fx ρ s.heap ρ' s'.heap) (r : RelS c fx ρ' σ' s') (hv : FR ρ' s'.heap f x) (q : Q f σ') : PostX c fx ρ s Q x s'

noncomputable def EV (c : Cx) (d : Nat) (fx : Fx) (t : Sem Value) (σ : St) (Q : V → St → Prop) : Prop :=
  ∀ ρ s A, Room d A → RelS c fx ρ σ s → wpAny c.M A t (Post c fx ρ s Q) noE s
noncomputable def EVs (c : Cx) (d : Nat) (fx : Fx) (t : Sem (List Value)) (σ : St) (Q : List V → St → Prop) : Prop :=
  ∀ ρ s A, Room d A → RelS c fx ρ σ s → wpAny c.M A t (Posts c fx ρ s Q) noE s
noncomputable def UV {α : Type} (c : Cx) (d : Nat) (fx : Fx) (t : Sem α) (σ : St) (Q : α → St → Prop) : Prop :=
  ∀ ρ s A, Room d A → RelS c fx ρ σ s → wpAny c.M A t (PostU c fx ρ s Q) noE s
noncomputable def XV (c : Cx) (d : Nat) (fx : Fx) (t : Sem Flow) (σ : St) (Q : Fl → St → Prop) : Prop :=
  ∀ ρ s A, Room d A → RelS c fx ρ σ s → wpAny c.M A t (PostX c fx ρ s Q) noE s
noncomputable def OV1 (c : Cx) (d : Nat) (fx : Fx) (f : Value → Sem Value) (v : V) (σ : St) (Q : V → St → Prop) : Prop :=
  ∀ ρ s A x, Room d A → RelS c fx ρ σ s → VR ρ s.heap v x → wpAny c.M A (f x) (Post c fx ρ s Q) noE s
noncomputable def OV2 (c : Cx) (d : Nat) (fx : Fx) (f : Value → Value → Sem Value) (v u : V) (σ : St) (Q : V → St → Prop) : Prop :=
  ∀ ρ s A x y, Room d A → RelS c fx ρ σ s → VR ρ s.heap v x → VR ρ s.heap u y → wpAny c.M A (f x y) (Post c fx ρ s Q) noE s
noncomputable def OVs (c : Cx) (d : Nat) (fx : Fx) (f : List Value → Sem Value) (vs : List V) (σ : St) (Q : V → St → Prop) : Prop :=
  ∀ ρ s A xs, Room d A → RelS c fx ρ σ s → VRs ρ s.heap vs xs → wpAny c.M A (f xs) (Post c fx ρ s Q) noE s
noncomputable def OU1 {α : Type} (c : Cx) (d : Nat) (fx : Fx) (f : Value → Sem α) (v : V) (σ : St) (Q : α → St → Prop) : Prop :=
  ∀ ρ s A x, Room d A → RelS c fx ρ σ s → VR ρ s.heap v x → wpAny c.M A (f x) (PostU c fx ρ s Q) noE s
end Mine
namespace Mine
open PySem PySem.W PyProof.Rows

section
variable {c : Cx} {d : Nat} {fx : Fx} {ρ ρ' ρ'' : List Addr} {σ σ' : St} {h h' h'' : Heap} {s s' s₁ : Shared} {A : Around}

theorem HRel.at {hp : List O} (r : HRel c ρ hp h) {i : Nat} {o : O} (e : hp[i]? = some o) : ∃ a x, ρ[i]? = some a ∧ h.get? a = some x ∧ OR ρ h o x := by
  obtain ⟨hi, _⟩ := List.getElem?_eq_some_iff.mp e
  have hi' : i < ρ.length := by rw [r.len]; exact hi
  obtain ⟨x, h1, h2⟩ := r.obj i ρ[i] o (List.getElem?_eq_getElem hi') e
  exact ⟨ρ[i], x, List.getElem?_eq_getElem hi', h1, h2⟩
theorem HRel.mem {hp : List O} (r : HRel c ρ hp h) {a : Addr} (e : a ∈ ρ) : ∃ (i : Nat) (o : O) (x : Obj), ρ[i]? = some a ∧ hp[i]? = some o ∧ h.get? a = some x ∧ OR ρ h o x := by
  obtain ⟨i, hi, rfl⟩ := List.getElem_of_mem e
  have hi' : i < hp.length := by rw [← r.len]; exact hi
  obtain ⟨x, h1, h2⟩ := r.obj i ρ[i] hp[i] (List.getElem?_eq_getElem hi) (List.getElem?_eq_getElem hi')
  exact ⟨i, hp[i], x, List.getElem?_eq_getElem hi, List.getElem?_eq_getElem hi', h1, h2⟩
theorem Rel.locAt (r : Rel c fx ρ σ h) : ∃ o es ep, h.get? fx.env.locals = some o ∧ o.data = .dict es ep := by
  obtain ⟨m, ⟨o, es, ep, h1, h2, _⟩, _⟩ := r.loc
  exact ⟨o, es, ep, h1, h2⟩
theorem HRel.notFix {hp : List O} (r : HRel c ρ hp h) {a : Addr} {o : Obj} (f : Fix o) (e : h.get? a = some o) : a ∉ ρ := by
  intro hm
  obtain ⟨i, o', x, _, _, h1, h2⟩ := r.mem hm
  rw [e] at h1; cases h1
  exact h2.notFix f
theorem Fix.notDict {o : Obj} (f : Fix o) {es ep} (e : o.data = .dict es ep) : False := by
  rcases f with ⟨_, _, rfl⟩ | ⟨_, _, rfl⟩ | ⟨_, vs, h1⟩
  · cases e
  · cases e
  · rw [h1] at e; cases e
theorem Rel.immKeep (r : Rel c fx ρ σ h) (k : Keep (fx.env.locals :: ρ) h h') : ImmKeep h h' := fun a o f e => by
  refine k a o ?_ e
  intro hm
  rcases List.mem_cons.mp hm with rfl | hm
  · obtain ⟨o', es, ep, h1, h2⟩ := r.locAt
    rw [e] at h1; cases h1
    exact f.notDict h2
  · exact r.toHRel.notFix f e hm
theorem HRel.immKeep {hp : List O} (r : HRel c ρ hp h) (k : Keep ρ h h') : ImmKeep h h' := fun a o f e => k a o (r.notFix f e) e

theorem Keep.refl (S : List Addr) (h : Heap) : Keep S h h := fun _ _ _ e => e
theorem Keep.push (S : List Addr) (h : Heap) (o : Obj) : Keep S h (h.push o) := fun _ _ _ e => Heap.get?_push_of_some _ e
theorem Keep.sub {S S' : List Addr} (x : Keep S h h') (hs : ∀ a ∈ S, a ∈ S') : Keep S' h h' := fun b o n e => x b o (fun m => n (hs b m)) e
theorem Keep.of_sameBut {a : Addr} (x : Heap.SameBut a h h') : Keep [a] h h' := fun b _ n e => (x.2 b (fun q => n (by rw [q]; exact .head _))).trans e
theorem Keep.of_extBut {a : Addr} (x : Heap.ExtBut a h h') : Keep [a] h h' := fun b o n e => x b o (fun q => n (by rw [q]; exact .head _)) e

theorem Ext.refl (fx : Fx) (ρ : List Addr) (h : Heap) : Ext fx ρ h ρ h := ⟨fun _ m => .inl m, .refl _ _⟩
theorem Ext.trans (x : Ext fx ρ h ρ' h') (y : Ext fx ρ' h' ρ'' h'') (hL : ∃ o, h'.get? fx.env.locals = some o) : Ext fx ρ h ρ'' h'' := by
  refine ⟨fun a m => ?_, fun b o n e => ?_⟩
  · rcases y.new a m with m' | z
    · exact x.new a m'
    · by_cases ha : a ∈ ρ
      · exact .inl ha
      · right
        cases q : h.get? a with
        | none => rfl
        | some o =>
          by_cases hl : a = fx.env.locals
          · obtain ⟨o', e'⟩ := hL; rw [hl, e'] at z; cases z
          · have := x.keep a o (fun m' => by rcases List.mem_cons.mp m' with rfl | m'; exact hl rfl; exact ha m') q
            rw [this] at z; cases z
  · refine y.keep b o (fun m => ?_) (x.keep b o n e)
    rcases List.mem_cons.mp m with rfl | m
    · exact n (.head _)
    · rcases x.new b m with m' | z
      · exact n (.tail _ m')
      · rw [e] at z; cases z
theorem Rel.hasL (r : Rel c fx ρ σ h) : ∃ o, h.get? fx.env.locals = some o := let ⟨o, _, _, e, _⟩ := r.locAt; ⟨o, e⟩

theorem Post.sh {s₀ s₁ s₂ : Shared} {x : Value} (z : Post c fx ρ s₁ Q x s₂) (h : s₁.heap = s₀.heap) : Post c fx ρ s₀ Q x s₂ := by
  obtain ⟨ρ', v, σ', p, e, r, hv, q⟩ := z
  exact ⟨ρ', v, σ', p, h ▸ e, r, hv, q⟩
theorem Post.trans {Q : V → St → Prop} {x : Value} (p : ρ <+: ρ') (e : Ext fx ρ s.heap ρ' s₁.heap) (r : RelS c fx ρ' σ s₁) (h : Post c fx ρ' s₁ Q x s') : Post c fx ρ s Q x s' := by
  obtain ⟨ρ'', v, σ', p', e', r', hv, q⟩ := h
  exact ⟨ρ'', v, σ', p.trans p', e.trans e' r.1.hasL, r', hv, q⟩
theorem PostU.trans {α : Type} {Q : α → St → Prop} {x : α} (p : ρ <+: ρ') (e : Ext fx ρ s.heap ρ' s₁.heap) (r : RelS c fx ρ' σ s₁) (h : PostU c fx ρ' s₁ Q x s') : PostU c fx ρ s Q x s' := by
  obtain ⟨ρ'', σ', p', e', r', q⟩ := h
  exact ⟨ρ'', σ', p.trans p', e.trans e' r.1.hasL, r', q⟩
theorem PostX.trans {Q : Fl → St → Prop} {x : Flow} (e : Ext fx ρ s.heap ρ' s₁.heap) (r : RelS c fx ρ' σ s₁) (h : PostX c fx ρ' s₁ Q x s') : PostX c fx ρ s Q x s' := by
  obtain ⟨ρ'', f, σ', e', r', hv, q⟩ := h
  exact ⟨ρ'', f, σ', e.trans e' r.1.hasL, r', hv, q⟩

theorem EV.mono {t : Sem Value} {Q Q' : V → St → Prop} (h : EV c d fx t σ Q) (k : ∀ v σ', Q v σ' → Q' v σ') : EV c d fx t σ Q' := fun ρ s A R r =>
  wpAny_mono (h ρ s A R r) (fun _ _ ⟨ρ', v, σ', p, e, r, hv, q⟩ => ⟨ρ', v, σ', p, e, r, hv, k _ _ q⟩) fun _ _ x => x
theorem XV.mono {t : Sem Flow} {Q Q' : Fl → St → Prop} (h : XV c d fx t σ Q) (k : ∀ v σ', Q v σ' → Q' v σ') : XV c d fx t σ Q' := fun ρ s A R r =>
  wpAny_mono (h ρ s A R r) (fun _ _ ⟨ρ', v, σ', e, r, hv, q⟩ => ⟨ρ', v, σ', e, r, hv, k _ _ q⟩) fun _ _ x => x
theorem bindEE {f : Value → Sem Value} {t : Sem Value} {Q : V → St → Prop} (R : Room d A) (r : RelS c fx ρ σ s)
    (h : EV c d fx t σ (fun v σ₁ => OV1 c d fx f v σ₁ Q)) : wpAny c.M A t (fun x s₁ => wpAny c.M A (f x) (Post c fx ρ s Q) noE s₁) noE s := by
  refine wpAny_mono (h ρ s A R r) ?_ fun _ _ x => x
  rintro x s₁ ⟨ρ₁, v, σ₁, p₁, e₁, r₁, v₁, h₁⟩
  exact wpAny_mono (h₁ ρ₁ s₁ A x R r₁ v₁) (fun y s₂ z => z.trans p₁ e₁ r₁) fun _ _ x => x

theorem Post.same {Q : V → St → Prop} {v : V} {x : Value} (r : RelS c fx ρ σ s) (hs : s'.heap = s.heap) (hg : s'.gens = s.gens) (ho : s'.os = s.os) (hv : VR ρ s.heap v x) (q : Q v σ) : Post c fx ρ s Q x s' :=
  ⟨ρ, v, σ, List.prefix_refl _, by rw [hs]; exact .refl _ _ _, by unfold RelS at r ⊢; rw [hs, hg, ho]; exact r, by rw [hs]; exact hv, q⟩

theorem HRel.ext {hp : List O} (r : HRel c ρ hp h) (k : ∀ b o, h.get? b = some o → h'.get? b = some o) : HRel c ρ hp h' :=
  ⟨fun b o e => k b o (r.keep b o e), r.len, r.nodup, r.fresh, fun i a o e1 e2 => let ⟨x, h1, h2⟩ := r.obj i a o e1 e2; ⟨x, k _ _ h1, h2.mono (List.prefix_refl _) fun _ _ _ e => k _ _ e⟩⟩
theorem Rel.ext (r : Rel c fx ρ σ h) (k : ∀ b o, h.get? b = some o → h'.get? b = some o) : Rel c fx ρ σ h' := by
  obtain ⟨m, hm, hv⟩ := r.loc
  exact { toHRel := r.toHRel.ext k, ok := r.ok, loc := ⟨m, hm.keeps k, fun x v e => let ⟨u, h1, h2⟩ := hv x v e; ⟨u, h1, h2.mono (List.prefix_refl _) fun _ _ _ e => k _ _ e⟩⟩,
          lfresh := r.lfresh, lapart := r.lapart, pre := r.pre, glob := r.glob, bltn := r.bltn, kind := r.kind, cells := r.cells }
theorem Rel.push (r : Rel c fx ρ σ h) (o : Obj) : Rel c fx ρ σ (h.push o) := r.ext fun _ _ e => Heap.get?_push_of_some _ e
theorem Ext.ext (k : ∀ b o, h.get? b = some o → h'.get? b = some o) : Ext fx ρ h ρ h' := ⟨fun _ m => .inl m, fun b o _ e => k b o e⟩
theorem Ext.push (o : Obj) : Ext fx ρ h ρ (h.push o) := .ext fun _ _ e => Heap.get?_push_of_some _ e

theorem get_none_of_lt {a : Addr} (ha : h.objs.size ≤ a) : h.get? a = none := by
  cases q : h.get? a with
  | none => rfl
  | some o => exact absurd (Heap.lt_size q) (Nat.not_lt.mpr ha)
theorem HRel.lt {hp : List O} (r : HRel c ρ hp h) {a : Addr} (m : a ∈ ρ) : a < h.objs.size := by
  obtain ⟨_, _, x, _, _, e, _⟩ := r.mem m
  exact Heap.lt_size e
theorem HRel.size₀ {hp : List O} (r : HRel c ρ hp h) {a : Addr} (ha : h.objs.size ≤ a) : c.H₀.get? a = none := by
  cases q : c.H₀.get? a with
  | none => rfl
  | some o => exact absurd (Heap.lt_size (r.keep _ _ q)) (Nat.not_lt.mpr ha)

theorem pre_snoc (ρ : List Addr) (a : Addr) : ρ <+: ρ ++ [a] := List.prefix_append ..
theorem HRel.alloc {hp : List O} {o : O} {x : Obj} (r : HRel c ρ hp h) (hf : x.isFreed = false) (ho : OR (ρ ++ [h.objs.size]) (h.push x) o x) : HRel c (ρ ++ [h.objs.size]) (hp ++ [o]) (h.push x) := by
  have hn : h.objs.size ∉ ρ := fun m => Nat.lt_irrefl _ (r.lt m)
  have k : ImmKeep h (h.push x) := fun _ _ _ e => Heap.get?_push_of_some _ e
  refine ⟨fun b o e => Heap.get?_push_of_some _ (r.keep b o e), by simp [r.len], ?_, fun a m => ?_, fun i a o' e1 e2 => ?_⟩
  · rw [List.nodup_append]
    refine ⟨r.nodup, by simp, fun a ha b hb e => ?_⟩
    rw [List.mem_singleton] at hb
    subst hb; subst e
    exact hn ha
  · rcases List.mem_append.mp m with m | m
    · exact r.fresh a m
    · rw [List.mem_singleton] at m; subst m; exact r.size₀ (Nat.le_refl _)
  · by_cases hi : i < ρ.length
    · rw [List.getElem?_append_left hi] at e1
      rw [List.getElem?_append_left (by rw [← r.len]; exact hi)] at e2
      obtain ⟨y, h1, h2⟩ := r.obj i a o' e1 e2
      exact ⟨y, Heap.get?_push_of_some _ h1, h2.mono (pre_snoc ..) k⟩
    · have hl : i = ρ.length := by
        have := (List.getElem?_eq_some_iff.mp e1).1
        simp at this; omega
      subst hl
      rw [List.getElem?_append_right (Nat.le_refl _)] at e1
      rw [List.getElem?_append_right (by rw [r.len]; exact Nat.le_refl _)] at e2
      rw [r.len] at e2
      simp at e1 e2
      subst e1 e2
      exact ⟨x, Heap.get?_push_size _ hf, ho⟩
theorem Rel.alloc {loc : List (Str × V)} {hp : List O} {o : O} {x : Obj} (r : Rel c fx ρ ⟨loc, hp⟩ h) (hf : x.isFreed = false) (ho : OR (ρ ++ [h.objs.size]) (h.push x) o x) :
    Rel c fx (ρ ++ [h.objs.size]) ⟨loc, hp ++ [o]⟩ (h.push x) := by
  obtain ⟨m, hm, hv⟩ := r.loc
  have k : ∀ b o, h.get? b = some o → (h.push x).get? b = some o := fun _ _ e => Heap.get?_push_of_some _ e
  exact { toHRel := r.toHRel.alloc hf ho, ok := r.ok, loc := ⟨m, hm.keeps k, fun x v e => let ⟨u, h1, h2⟩ := hv x v e; ⟨u, h1, h2.mono (pre_snoc ..) fun _ _ _ e => k _ _ e⟩⟩,
          lfresh := r.lfresh,
          lapart := fun m => by
            rcases List.mem_append.mp m with m | m
            · exact r.lapart m
            · rw [List.mem_singleton] at m
              obtain ⟨o, e⟩ := r.hasL
              have := Heap.lt_size e
              rw [m] at this
              exact Nat.lt_irrefl _ this
          pre := r.pre.trans (pre_snoc ..), glob := r.glob, bltn := r.bltn, kind := r.kind, cells := r.cells }
theorem Ext.alloc (x : Obj) : Ext fx ρ h (ρ ++ [h.objs.size]) (h.push x) :=
  ⟨fun a m => by
    rcases List.mem_append.mp m with m | m
    · exact .inl m
    · rw [List.mem_singleton] at m; subst m; exact .inr (get_none_of_lt (Nat.le_refl _)), .push _ _ _⟩

theorem mem_of_get? {ρ : List Addr} {i : Nat} {a : Addr} (e : ρ[i]? = some a) : a ∈ ρ := List.mem_of_getElem? e
theorem nodup_get {ρ : List Addr} (n : ρ.Nodup) {i j : Nat} {a : Addr} (e1 : ρ[i]? = some a) (e2 : ρ[j]? = some a) : i = j := by
  obtain ⟨h1, e1⟩ := List.getElem?_eq_some_iff.mp e1
  obtain ⟨h2, e2⟩ := List.getElem?_eq_some_iff.mp e2
  have q := List.pairwise_iff_getElem.mp n
  rcases Nat.lt_trichotomy i j with hl | hl | hl
  · exact absurd (e1.trans e2.symm) (q i j h1 h2 hl)
  · exact hl
  · exact absurd (e2.trans e1.symm) (q j i h2 h1 hl)
theorem HRel.upd {hp : List O} {i : Nat} {a : Addr} {o : O} {x : Obj} (r : HRel c ρ hp h) (ha : ρ[i]? = some a) (hs : Keep [a] h h') (hx : h'.get? a = some x) (ho : OR ρ h' o x) : HRel c ρ (hp.set i o) h' := by
  have fr := r.fresh a (mem_of_get? ha)
  have k : ImmKeep h h' := r.immKeep (hs.sub fun b m => by rw [List.mem_singleton] at m; subst m; exact mem_of_get? ha)
  refine ⟨fun b o e => hs b o (fun m => ?_) (r.keep b o e), by simp [r.len], r.nodup, r.fresh, fun j b o' e1 e2 => ?_⟩
  · rw [List.mem_singleton] at m; subst m; rw [e] at fr; cases fr
  · by_cases hj : j = i
    · subst hj
      rw [ha] at e1; cases e1
      have hlt : j < hp.length := by rw [← r.len]; exact (List.getElem?_eq_some_iff.mp ha).1
      rw [List.getElem?_set_self hlt] at e2; cases e2
      exact ⟨x, hx, ho⟩
    · rw [List.getElem?_set_ne (Ne.symm hj)] at e2
      obtain ⟨y, h1, h2⟩ := r.obj j b o' e1 e2
      refine ⟨y, hs b y (fun m => ?_) h1, h2.mono (List.prefix_refl _) k⟩
      rw [List.mem_singleton] at m; subst m
      exact hj (nodup_get r.nodup e1 ha)
theorem Rel.upd {loc : List (Str × V)} {hp : List O} {i : Nat} {a : Addr} {o : O} {x : Obj} (r : Rel c fx ρ ⟨loc, hp⟩ h) (ha : ρ[i]? = some a) (hs : Keep [a] h h') (hx : h'.get? a = some x) (ho : OR ρ h' o x) :
    Rel c fx ρ ⟨loc, hp.set i o⟩ h' := by
  have k : ImmKeep h h' := r.toHRel.immKeep (hs.sub fun b m => by rw [List.mem_singleton] at m; subst m; exact mem_of_get? ha)
  obtain ⟨m, ⟨o₁, es, ep, hL, hr⟩, hv⟩ := r.loc
  have ne : fx.env.locals ∉ [a] := fun m => by rw [List.mem_singleton] at m; exact r.lapart (m ▸ mem_of_get? ha)
  exact { toHRel := r.toHRel.upd ha hs hx ho, ok := r.ok, loc := ⟨m, ⟨o₁, es, ep, hs _ _ ne hL, hr⟩, fun x v e => let ⟨u, h1, h2⟩ := hv x v e; ⟨u, h1, h2.mono (List.prefix_refl _) k⟩⟩,
          lfresh := r.lfresh, lapart := r.lapart, pre := r.pre, glob := r.glob, bltn := r.bltn, kind := r.kind, cells := r.cells }
theorem Ext.upd {i : Nat} {a : Addr} (ha : ρ[i]? = some a) (hs : Keep [a] h h') : Ext fx ρ h ρ h' :=
  ⟨fun _ m => .inl m, hs.sub fun b m => by rw [List.mem_singleton] at m; subst m; exact .tail _ (mem_of_get? ha)⟩

theorem HRel.side {hp : List O} {S : List Addr} (r : HRel c ρ hp h) (hs : Keep S h h') (n₀ : ∀ b ∈ S, c.H₀.get? b = none) (nρ : ∀ b ∈ S, b ∉ ρ) (nf : ∀ b ∈ S, ∀ o, h.get? b = some o → ¬ Fix o) : HRel c ρ hp h' := by
  have k : ImmKeep h h' := fun a o f e => hs a o (fun m => nf a m o e f) e
  refine ⟨fun b o e => hs b o (fun m => by rw [n₀ b m] at e; cases e) (r.keep b o e), r.len, r.nodup, r.fresh, fun i a o e1 e2 => ?_⟩
  obtain ⟨x, h1, h2⟩ := r.obj i a o e1 e2
  exact ⟨x, hs a x (fun m => nρ a m (mem_of_get? e1)) h1, h2.mono (List.prefix_refl _) k⟩
theorem Rel.side {S : List Addr} (r : Rel c fx ρ σ h) (hs : Keep S h h') (n₀ : ∀ b ∈ S, c.H₀.get? b = none) (nρ : ∀ b ∈ S, b ∉ ρ) (nL : fx.env.locals ∉ S) (nf : ∀ b ∈ S, ∀ o, h.get? b = some o → ¬ Fix o) : Rel c fx ρ σ h' := by
  have k : ImmKeep h h' := fun a o f e => hs a o (fun m => nf a m o e f) e
  obtain ⟨m, ⟨o₁, es, ep, hL, hr⟩, hv⟩ := r.loc
  exact { toHRel := r.toHRel.side hs n₀ nρ nf, ok := r.ok, loc := ⟨m, ⟨o₁, es, ep, hs _ _ nL hL, hr⟩, fun x v e => let ⟨u, h1, h2⟩ := hv x v e; ⟨u, h1, h2.mono (List.prefix_refl _) k⟩⟩,
          lfresh := r.lfresh, lapart := r.lapart, pre := r.pre, glob := r.glob, bltn := r.bltn, kind := r.kind, cells := r.cells }

noncomputable def put (x : Str) (v : V) : List (Str × V) → List (Str × V)
  | [] => [(x, v)]
  | (y, u) :: r => if x == y then (y, v) :: r else (y, u) :: put x v r
theorem put_lookup (x : Str) (v : V) (y : Str) : ∀ (l : List (Str × V)), (put x v l).lookup y = if y == x then some v else l.lookup y
  | [] => by
    unfold put
    rw [List.lookup_cons]
    cases y == x <;> simp
  | (z, u) :: r => by
    unfold put
    cases hz : x == z with
    | true =>
      have := beq_iff_eq.mp hz; subst this
      simp only [if_true, List.lookup_cons]
      cases y == x <;> rfl
    | false =>
      simp only [Bool.false_eq_true, if_false, List.lookup_cons, put_lookup x v y r]
      cases hy : y == z with
      | true =>
        have := beq_iff_eq.mp hy; subst this
        have : (y == x) = false := by
          cases q : y == x with
          | false => rfl
          | true => rw [beq_iff_eq.mp q] at hz; simp at hz
        simp [this]
      | false => rfl
theorem Rel.setLoc {loc : List (Str × V)} {hp : List O} {x : Str} {v : V} {u : Value} {m : Str → Option Value} (r : Rel c fx ρ ⟨loc, hp⟩ h) (hm : h.Ns fx.env.locals m)
    (hn : h'.Ns fx.env.locals (fun y => if y = x then some u else m y)) (hs : Heap.SameBut fx.env.locals h h') (hv : VR ρ h v u) : Rel c fx ρ ⟨put x v loc, hp⟩ h' := by
  have ks : Keep [fx.env.locals] h h' := .of_sameBut hs
  have k : ImmKeep h h' := r.immKeep (ks.sub fun b m => by rw [List.mem_singleton] at m; subst m; exact .head _)
  obtain ⟨m', hm', hl⟩ := r.loc
  have em : m' = m := by
    obtain ⟨o₁, es₁, ep₁, e1, e2, _, e3⟩ := hm
    obtain ⟨o₂, es₂, ep₂, f1, f2, _, f3⟩ := hm'
    rw [e1] at f1; cases f1
    rw [e2] at f2; cases f2
    funext y; rw [← e3, ← f3]
  subst em
  exact { toHRel := r.toHRel.side ks (fun b m => by rw [List.mem_singleton] at m; subst m; exact r.lfresh) (fun b m => by rw [List.mem_singleton] at m; subst m; exact r.lapart)
            (fun b m o e => by
              rw [List.mem_singleton] at m; subst m
              obtain ⟨o₁, es, ep, e1, e2⟩ := r.locAt
              rw [e] at e1; cases e1
              exact fun f => f.notDict e2)
          ok := r.ok
          loc := ⟨_, hn, fun y v' e => by
            rw [put_lookup] at e
            cases hy : y == x with
            | true =>
              rw [hy] at e; simp at e; subst e
              have := beq_iff_eq.mp hy; subst this
              exact ⟨u, by simp, hv.mono (List.prefix_refl _) k⟩
            | false =>
              rw [hy] at e; simp at e
              obtain ⟨u', h1, h2⟩ := hl y v' e
              have : y ≠ x := fun q => by rw [q] at hy; simp at hy
              exact ⟨u', by simp [this, h1], h2.mono (List.prefix_refl _) k⟩⟩
          lfresh := r.lfresh, lapart := r.lapart, pre := r.pre, glob := r.glob, bltn := r.bltn, kind := r.kind, cells := r.cells }
theorem Ext.setLoc (hs : Heap.SameBut fx.env.locals h h') : Ext fx ρ h ρ h' := ⟨fun _ m => .inl m, (Keep.of_sameBut hs).sub fun b m => by rw [List.mem_singleton] at m; subst m; exact .head _⟩
end
end Mine
namespace Mine
open PySem PySem.W PyProof.Rows

section
variable {c : Cx} {d : Nat} {fx : Fx} {ρ ρ' ρ'' : List Addr} {σ σ' : St} {h h' h'' : Heap} {s s' s₁ : Shared} {A : Around} {Q : V → St → Prop}
  {loc : List (Str × V)} {hp : List O}

theorem EV.cint {i k pos} (q : Q (.int i) σ) : EV c d fx (eval (.Constant (.int i) k pos) fx.env) σ Q := fun _ _ _ _ r => wpAny_Constant_int (Post.same r rfl rfl rfl (.int _ _) q)
theorem EV.cstr {x : Str} {k pos} {l : List Nat} (q : Q (.str l) σ) (e : x.cps.toList = l := by rfl) : EV c d fx (eval (.Constant (.str x) k pos) fx.env) σ Q :=
  fun _ _ _ _ r => Calls.Constant_str (Post.same r rfl rfl rfl (.str _ e) q)
theorem EV.cnone {k pos} (q : Q .none σ) : EV c d fx (eval (.Constant .none k pos) fx.env) σ Q := fun ρ s A _ r => (wpAny_pure (Post.same r rfl rfl rfl .none q) : wpAny c.M A (pure .none) _ _ s)
theorem EV.cbool {b k pos} (q : Q (.bool b) σ) : EV c d fx (eval (.Constant (.bool b) k pos) fx.env) σ Q := fun ρ s A _ r => (wpAny_pure (Post.same r rfl rfl rfl (.bool _) q) : wpAny c.M A (pure (.bool b)) _ _ s)

theorem EV.var {x : Str} {pos : Pos} {v : V} (e : σ.loc.lookup x = some v) (q : Q v σ) (hx : fx.env.kindOf x = some .local := by rfl) (hd : (x == ("__debug__" : Str)) = false := by decide) :
    EV c d fx (eval (.Name x pos) fx.env) σ Q := fun ρ s A _ r => by
  obtain ⟨m, hm, hv⟩ := r.1.loc
  obtain ⟨u, h1, h2⟩ := hv x v e
  exact wpAny_Name (wpAny_loadName_local r.1.kind hx hm h1 (Post.same r rfl rfl rfl h2 q)) hd
theorem Rel.cellAt (r : Rel c fx ρ σ h) {x : Str} {i : Nat} {v : V} (e : fx.cl.lookup x = some i) (ho : σ.hp[i]? = some (.cell (some v))) : ∃ a u, fx.env.cells.lookup x = some a ∧ ρ[i]? = some a ∧ h.IsCell a (some u) ∧ VR ρ h v u := by
  obtain ⟨a, h1, h2⟩ := r.cells.look e
  have h2' := pre_get r.pre h2
  obtain ⟨x', h3, h4⟩ := r.obj i a _ h2' ho
  obtain ⟨y, hy, h5⟩ := h4
  cases y with
  | none => exact h5.elim
  | some y => exact ⟨a, y, h1, h2', ⟨_, h3, hy⟩, h5⟩
theorem EV.cell {x : Str} {pos : Pos} {i : Nat} {v : V} (e : fx.cl.lookup x = some i) (ho : σ.hp[i]? = some (.cell (some v))) (q : Q v σ) (hx : fx.env.kindOf x = some .cell := by rfl) (hd : (x == ("__debug__" : Str)) = false := by decide) :
    EV c d fx (eval (.Name x pos) fx.env) σ Q := fun ρ s A _ r => by
  obtain ⟨a, u, h1, h2, h3, h4⟩ := r.1.cellAt e ho
  exact wpAny_Name (wpAny_loadName_cell r.1.kind hx h1 h3 (Post.same r rfl rfl rfl h4 q)) hd
theorem Rel.gNs (r : Rel c fx ρ σ h) : h.Ns fx.env.globals c.mg := by rw [r.glob]; exact r.ok.t.g.keeps r.keep
theorem Rel.bNs (r : Rel c fx ρ σ h) : h.Ns fx.env.builtins c.mb := by rw [r.bltn]; exact r.ok.t.b.keeps r.keep
theorem EV.gbi {x : Str} {pos : Pos} {v : V} {u : Value} (q : Q v σ) (e : nsIn c.K mainGlobals x = some none) (hv : bootBuiltins x = some u) (hu : ∀ ρ h, VR ρ h v u) (hn : x ≠ "__name__")
    (hx : fx.env.kindOf x = some .globalImplicit := by rfl) (hd : (x == ("__debug__" : Str)) = false := by decide) :
    EV c d fx (eval (.Name x pos) fx.env) σ Q := fun ρ s A _ r =>
  Calls.Name_function_global r.1.kind hx (Calls.loadGlobal_builtin r.1.gNs (mg_none_of r.1.ok.k r.1.ok.t.g e) r.1.bNs ((r.1.ok.t.builtins x hn).trans hv) (Post.same r rfl rfl rfl (hu _ _) q)) hd

theorem EV.binop {l r : Expr} {op pos} (h : EV c d fx (eval l fx.env) σ (fun v σ₁ => EV c d fx (eval r fx.env) σ₁ (fun u σ₂ => OV2 c d fx (binaryOp op) v u σ₂ Q))) : EV c d fx (eval (.BinOp l op r pos) fx.env) σ Q := fun ρ s A R r => by
  refine wpAny_BinOp (wpAny_mono (h ρ s A R r) ?_ fun _ _ e => e)
  rintro x s₁ ⟨ρ₁, v, σ₁, p₁, e₁, r₁, v₁, h₁⟩
  refine wpAny_mono (h₁ ρ₁ s₁ A R r₁) ?_ fun _ _ e => e
  rintro y s₂ ⟨ρ₂, u, σ₂, p₂, e₂, r₂, v₂, h₂⟩
  refine wpAny_mono (h₂ ρ₂ s₂ A x y R r₂ (v₁.mono p₂ (r₁.1.immKeep e₂.keep)) v₂) (fun _ _ z => (z.trans p₂ e₂ r₂).trans p₁ e₁ r₁) fun _ _ e => e
noncomputable def TV (c : Cx) (d : Nat) (fx : Fx) (e : Expr) (σ : St) (Q : Bool → St → Prop) : Prop := UV c d fx (isTrue e fx.env (eval e fx.env)) σ Q
inductive BoolI (Q : Bool → St → Prop) (w : V) (σ : St) : Prop
  | mk (b : Bool) (e : w = .bool b) (q : Q b σ) : BoolI Q w σ
theorem TV.cmp {l r : Expr} {op pos} {Q : Bool → St → Prop} (h : EV c d fx (eval l fx.env) σ (fun v σ₁ => EV c d fx (eval r fx.env) σ₁ (fun u σ₂ => OV2 c d fx (compareOp op) v u σ₂ (BoolI Q))))
    (hm : behindInMarks op r = false := by with_unfolding_all rfl) : TV c d fx (.Compare l [op] [r] pos) σ Q := fun ρ s A R r => by
  refine wpAny_isTrue_Compare1 (wpAny_mono (h ρ s A R r) ?_ fun _ _ e => e) hm
  rintro x s₁ ⟨ρ₁, v, σ₁, p₁, e₁, r₁, v₁, h₁⟩
  refine wpAny_mono (h₁ ρ₁ s₁ A R r₁) ?_ fun _ _ e => e
  rintro y s₂ ⟨ρ₂, u, σ₂, p₂, e₂, r₂, v₂, h₂⟩
  refine wpAny_mono (h₂ ρ₂ s₂ A x y R r₂ (v₁.mono p₂ (r₁.1.immKeep e₂.keep)) v₂) ?_ fun _ _ e => e
  rintro z s₃ ⟨ρ₃, w, σ₃, p₃, e₃, r₃, v₃, b, rfl, h₃⟩
  cases v₃ using VR.boolC
  refine wpAny_truthy_bool ?_
  exact ⟨ρ₃, σ₃, (p₁.trans p₂).trans p₃, (e₁.trans e₂ r₁.1.hasL).trans e₃ r₂.1.hasL, r₃, h₃⟩

theorem OV2.add_int {a b : Int} (q : Q (.int (a + b)) σ) : OV2 c d fx (binaryOp .Add) (.int a) (.int b) σ Q := fun ρ s A x y _ r vx vy => by
  cases vx using VR.intC; cases vy using VR.intC; exact P.add_int (Post.same r rfl rfl rfl (.int _ _) q)
theorem OV2.sub_int {a b : Int} (q : Q (.int (a - b)) σ) : OV2 c d fx (binaryOp .Sub) (.int a) (.int b) σ Q := fun ρ s A x y _ r vx vy => by
  cases vx using VR.intC; cases vy using VR.intC; exact P.sub_int (Post.same r rfl rfl rfl (.int _ _) q)
theorem OV2.mul_int {a b : Int} (hm : IntMulOk a b) (q : Q (.int (a * b)) σ) : OV2 c d fx (binaryOp .Mult) (.int a) (.int b) σ Q := fun ρ s A x y _ r vx vy => by
  cases vx using VR.intC; cases vy using VR.intC; exact P.mul_int (Post.same r rfl rfl rfl (.int _ _) q) hm
theorem OV2.mod_int {a b : Int} (hb : b ≠ 0) (q : Q (.int (a.fmod b)) σ) : OV2 c d fx (binaryOp .Mod) (.int a) (.int b) σ Q := fun ρ s A x y _ r vx vy => by
  cases vx using VR.intC; cases vy using VR.intC; exact PyProof.Rows.mod_int hb (Post.same r rfl rfl rfl (.int _ _) q)
theorem OV2.eq_int {a b : Int} (q : Q (.bool (a == b)) σ) : OV2 c d fx (compareOp .Eq) (.int a) (.int b) σ Q := fun ρ s A x y _ r vx vy => by
  cases vx using VR.intC; cases vy using VR.intC; exact P.eq_int (Post.same r rfl rfl rfl (.bool _) q)
theorem OV2.lt_int {a b : Int} (q : Q (.bool (decide (a < b))) σ) : OV2 c d fx (compareOp .Lt) (.int a) (.int b) σ Q := fun ρ s A x y _ r vx vy => by
  cases vx using VR.intC; cases vy using VR.intC; exact P.lt_int (Post.same r rfl rfl rfl (.bool _) q)
theorem OV2.gt_int {a b : Int} (q : Q (.bool (decide (a > b))) σ) : OV2 c d fx (compareOp .Gt) (.int a) (.int b) σ Q := fun ρ s A x y _ r vx vy => by
  cases vx using VR.intC; cases vy using VR.intC; exact P.gt_int (Post.same r rfl rfl rfl (.bool _) q)
theorem OV2.eq_str {a b : List Nat} (q : Q (.bool (a == b)) σ) : OV2 c d fx (compareOp .Eq) (.str a) (.str b) σ Q := fun ρ s A x y _ r vx vy => by
  cases vx using VR.strC with | str t e => cases vy using VR.strC with | str u f => subst e f; exact P.eq_str (Post.same r rfl rfl rfl (.bool _) q)
theorem add_post {x y : Str} {t u : Tok} (r : RelS c fx ρ σ s) (hz : x.cps.toList.length + y.cps.toList.length ≤ sizeLine) (q : Q (.str (x.cps.toList ++ y.cps.toList)) σ) :
    (if x.length == 0 then Made.val (.str y u) else if y.length == 0 then Made.val (.str x t) else Made.str (x ++ y)).post (Post c fx ρ s Q) s := by
  have hx : ∀ z : Str, (z.length == 0) = true → z.cps.toList = [] := fun z e => by
    have : z.cps.size = 0 := beq_iff_eq.mp e
    simpa using this
  split
  · rename_i e
    refine Post.same r rfl rfl rfl (.str _ rfl) ?_
    rw [hx x e] at q; exact q
  · split
    · rename_i e
      refine Post.same r rfl rfl rfl (.str _ rfl) ?_
      rw [hx y e, List.append_nil] at q; exact q
    · refine ⟨?_, Post.same r rfl rfl rfl (.str _ ?_) q⟩
      · show (x.cps ++ y.cps).size ≤ sizeLine
        simpa using hz
      · show (x.cps ++ y.cps).toList = _
        simp
theorem OV2.add_str {a b : List Nat} (hz : a.length + b.length ≤ sizeLine) (q : Q (.str (a ++ b)) σ) : OV2 c d fx (binaryOp .Add) (.str a) (.str b) σ Q := fun ρ s A x y _ r vx vy => by
  cases vx using VR.strC with | str t e => cases vy using VR.strC with | str u f => subst e f; exact P.add_str (add_post r hz q)
end
end Mine
namespace Mine
open PySem PySem.W PyProof.Rows

section
variable {c : Cx} {d : Nat} {fx : Fx} {ρ ρ' ρ'' : List Addr} {σ σ' : St} {h h' h'' : Heap} {s s' s₁ : Shared} {A : Around} {Q : V → St → Prop} {X : Fl → St → Prop}
  {loc : List (Str × V)} {hp : List O}

theorem XV.nil (q : X .next σ) : XV c d fx (execs [] fx.env) σ X := fun ρ s A _ r => wpAny_execs_nil ⟨ρ, .next, σ, .refl _ _ _, r, .next, q⟩
noncomputable abbrev thenX (c : Cx) (d : Nat) (fx : Fx) (rest : List Stmt) (X : Fl → St → Prop) : Fl → St → Prop := fun f σ₁ => match f with | .next => XV c d fx (execs rest fx.env) σ₁ X | f => X f σ₁
theorem XV.cons {st : Stmt} {rest : List Stmt} (h : XV c d fx (exec st fx.env) σ (thenX c d fx rest X)) :
    XV c d fx (execs (st :: rest) fx.env) σ X := fun ρ s A R r => by
  refine wpAny_execs_cons (wpAny_mono (h ρ s A R r) ?_ fun _ _ e => e)
  rintro x s₁ ⟨ρ₁, f, σ₁, e₁, r₁, v₁, h₁⟩
  cases v₁ with
  | next => exact wpAny_mono (h₁ ρ₁ s₁ A R r₁) (fun _ _ z => z.trans e₁ r₁) fun _ _ e => e
  | brk => exact ⟨ρ₁, .brk, σ₁, e₁, r₁, .brk, h₁⟩
  | cont => exact ⟨ρ₁, .cont, σ₁, e₁, r₁, .cont, h₁⟩
  | ret v => exact ⟨ρ₁, _, σ₁, e₁, r₁, .ret v, h₁⟩
theorem XV.ret {e : Expr} {pos} (h : EV c d fx (eval e fx.env) σ (fun v σ₁ => X (.ret v) σ₁)) : XV c d fx (exec (.Return (some e) pos) fx.env) σ X := fun ρ s A R r => by
  refine wpAny_Return_some (wpAny_mono (h ρ s A R r) ?_ fun _ _ e => e)
  rintro x s₁ ⟨ρ₁, v, σ₁, p₁, e₁, r₁, v₁, h₁⟩
  exact ⟨ρ₁, _, σ₁, e₁, r₁, .ret v₁, h₁⟩
theorem XV.brk {pos} (q : X .brk σ) : XV c d fx (exec (.Break pos) fx.env) σ X := fun ρ s A _ r => fun _ _ _ => (⟨ρ, .brk, σ, .refl _ _ _, r, .brk, q⟩ : PostX c fx ρ s X .brk s)
theorem XV.ifs {test : Expr} {body orelse : List Stmt} {pos} (h : TV c d fx test σ (fun b σ₁ => if b then XV c d fx (execs body fx.env) σ₁ X else XV c d fx (execs orelse fx.env) σ₁ X)) :
    XV c d fx (exec (.If test body orelse pos) fx.env) σ X := fun ρ s A R r => by
  refine wpAny_If (wpAny_mono (h ρ s A R r) ?_ fun _ _ e => e)
  rintro b s₁ ⟨ρ₁, σ₁, p₁, e₁, r₁, h₁⟩
  cases b with
  | true => exact wpAny_mono (h₁ ρ₁ s₁ A R r₁) (fun _ _ z => z.trans e₁ r₁) fun _ _ e => e
  | false => exact wpAny_mono (h₁ ρ₁ s₁ A R r₁) (fun _ _ z => z.trans e₁ r₁) fun _ _ e => e
theorem XV.expr {e : Expr} {pos} (h : EV c d fx (eval e fx.env) σ (fun _ σ₁ => X .next σ₁)) (hs : swapsWith e none pos.line fx.env = pure false := by rfl) : XV c d fx (exec (.Expr e pos) fx.env) σ X := fun ρ s A R r => by
  refine wpAny_Expr_any (wpAny_mono (h ρ s A R r) ?_ fun _ _ e => e) (by unfold interactive; rw [r.1.kind]; rfl) hs
  rintro x s₁ ⟨ρ₁, v, σ₁, p₁, e₁, r₁, v₁, h₁⟩
  exact ⟨ρ₁, .next, σ₁, e₁, r₁, .next, h₁⟩

theorem storeL {x : Str} {v : V} {u : Value} {R : Unit → Shared → Prop} (r : RelS c fx ρ ⟨loc, hp⟩ s) (hv : VR ρ s.heap v u)
    (q : ∀ s', Ext fx ρ s.heap ρ s'.heap → RelS c fx ρ ⟨put x v loc, hp⟩ s' → R () s') (hx : fx.env.kindOf x = some .local := by rfl) : wpAny c.M A (storeName fx.env x u) R noE s := by
  obtain ⟨m, hm, _⟩ := r.1.loc
  refine wpAny_storeName_local hx hm (fun h' hn hs => q _ (.setLoc hs) ⟨r.1.setLoc hm hn hs hv, r.2⟩) ?_
  rw [r.1.kind]; rfl
theorem storeC {x : Str} {i : Nat} {v : V} {v₀ : Option V} {u : Value} {R : Unit → Shared → Prop} (r : RelS c fx ρ ⟨loc, hp⟩ s) (hv : VR ρ s.heap v u) (e : fx.cl.lookup x = some i) (ho : hp[i]? = some (.cell v₀))
    (q : ∀ s', Ext fx ρ s.heap ρ s'.heap → RelS c fx ρ ⟨loc, hp.set i (.cell (some v))⟩ s' → R () s') (hx : fx.env.kindOf x = some .cell := by rfl) : wpAny c.M A (storeName fx.env x u) R noE s := by
  obtain ⟨a, h1, h2⟩ := r.1.cells.look e
  have h2' := pre_get r.1.pre h2
  obtain ⟨x', h3, h4⟩ := r.1.obj i a _ h2' ho
  obtain ⟨y, hy, h5⟩ := h4
  unfold storeName
  rw [hx, r.1.kind]
  refine wpAny_bind (wpAny_cellOf h1 ?_)
  unfold cellSet
  refine wpAny_bind (wpAny_load h3 ?_)
  rw [hy]
  refine wpAny_update h3 ?_
  have hs : Keep [a] s.heap (s.heap.update a fun o => { o with data := .cell (some u) }) := .of_sameBut (Heap.SameBut.update ..)
  have hg : (s.heap.update a fun o => { o with data := .cell (some u) }).get? a = some { x' with data := .cell (some u) } := Heap.get?_update_self _ h3 rfl
  have k : ImmKeep s.heap (s.heap.update a fun o => { o with data := .cell (some u) }) := r.1.toHRel.immKeep (hs.sub fun b m => by rw [List.mem_singleton] at m; subst m; exact mem_of_get? h2')
  exact q _ (.upd h2' hs) ⟨r.1.upd h2' hs hg ⟨some u, rfl, hv.mono (List.prefix_refl _) k⟩, r.2⟩
theorem XV.assign {x : Str} {pos' value pos} (h : EV c d fx (eval value fx.env) σ (fun v σ₁ => X .next ⟨put x v σ₁.loc, σ₁.hp⟩)) (hx : fx.env.kindOf x = some .local := by rfl)
    (hs : swapsWith value (some (.Name x pos')) pos.line fx.env = pure false := by rfl) : XV c d fx (exec (.Assign [.Name x pos'] value pos) fx.env) σ X := fun ρ s A R r => by
  refine wpAny_Assign_Name (wpAny_mono (h ρ s A R r) ?_ fun _ _ e => e) hs
  rintro y s₁ ⟨ρ₁, v, σ₁, p₁, e₁, r₁, v₁, h₁⟩
  exact storeL r₁ v₁ (fun s' e' r' => ⟨ρ₁, .next, _, e₁.trans e' r₁.1.hasL, r', .next, h₁⟩) hx
theorem XV.assignC {x : Str} {pos' value pos} {i : Nat} (h : EV c d fx (eval value fx.env) σ (fun v σ₁ => ∃ v₀, σ₁.hp[i]? = some (.cell v₀) ∧ X .next ⟨σ₁.loc, σ₁.hp.set i (.cell (some v))⟩)) (e : fx.cl.lookup x = some i)
    (hx : fx.env.kindOf x = some .cell := by rfl) (hs : swapsWith value (some (.Name x pos')) pos.line fx.env = pure false := by rfl) : XV c d fx (exec (.Assign [.Name x pos'] value pos) fx.env) σ X := fun ρ s A R r => by
  refine wpAny_Assign_Name (wpAny_mono (h ρ s A R r) ?_ fun _ _ e => e) hs
  rintro y s₁ ⟨ρ₁, v, σ₁, p₁, e₁, r₁, v₁, v₀, h₀, h₁⟩
  exact storeC r₁ v₁ e h₀ (fun s' e' r' => ⟨ρ₁, .next, _, e₁.trans e' r₁.1.hasL, r', .next, h₁⟩) hx
theorem XV.aug {x : Str} {pos' op value pos} {v₀ : V} (e : σ.loc.lookup x = some v₀) (h : EV c d fx (eval value fx.env) σ (fun v σ₁ => OV2 c d fx (inplaceOp op) v₀ v σ₁ (fun w σ₂ => X .next ⟨put x w σ₂.loc, σ₂.hp⟩)))
    (hx : fx.env.kindOf x = some .local := by rfl) : XV c d fx (exec (.AugAssign (.Name x pos') op value pos) fx.env) σ X := fun ρ s A R r => by
  obtain ⟨m, hm, hv⟩ := r.1.loc
  obtain ⟨u, h1, h2⟩ := hv x v₀ e
  refine wpAny_AugAssign_Name (wpAny_loadName_local r.1.kind hx hm h1 (wpAny_mono (h ρ s A R r) ?_ fun _ _ e => e))
  rintro y s₁ ⟨ρ₁, v, σ₁, p₁, e₁, r₁, v₁, h₁⟩
  refine wpAny_mono (h₁ ρ₁ s₁ A u y R r₁ (h2.mono p₁ (r.1.immKeep e₁.keep)) v₁) ?_ fun _ _ e => e
  rintro z s₂ ⟨ρ₂, w, σ₂, p₂, e₂, r₂, v₂, h₂⟩
  exact storeL r₂ v₂ (fun s' e' r' => ⟨ρ₂, .next, _, (e₁.trans e₂ r₁.1.hasL).trans e' r₂.1.hasL, r', .next, h₂⟩) hx

theorem EVs.nil {pos : Pos} {Q : List V → St → Prop} (q : Q [] σ) : EVs c d fx (spliced (backTo pos (starEach [] fx.env))) σ Q := fun ρ s A _ r => args_nil ⟨ρ, [], σ, List.prefix_refl _, .refl _ _ _, r, .nil, q⟩
noncomputable def starless : Expr → Bool
  | .Starred _ _ => false
  | _ => true
theorem starEach_cons {e : Expr} {rest : List Expr} {env : Env} (h : starless e = true) : starEach (e :: rest) env = (false, eval e env) :: starEach rest env := by
  cases e <;> first | (simp only [starEach]; done) | (simp [starless] at h; done)
theorem EVs.cons {e : Expr} {rest : List Expr} {pos : Pos} {Q : List V → St → Prop} (h : EV c d fx (eval e fx.env) σ (fun v σ₁ => EVs c d fx (spliced (backTo pos (starEach rest fx.env))) σ₁ (fun vs σ₂ => Q (v :: vs) σ₂)))
    (hst : starless e = true := by rfl) : EVs c d fx (spliced (backTo pos (starEach (e :: rest) fx.env))) σ Q := fun ρ s A R r => by
  have he := starEach_cons (rest := rest) (env := fx.env) hst
  refine args_cons (wpAny_mono (h ρ s A R r) ?_ fun _ _ e => e) he
  rintro x s₁ ⟨ρ₁, v, σ₁, p₁, e₁, r₁, v₁, h₁⟩
  refine wpAny_mono (h₁ ρ₁ s₁ A R r₁) ?_ fun _ _ e => e
  rintro xs s₂ ⟨ρ₂, vs, σ₂, p₂, e₂, r₂, v₂, h₂⟩
  exact ⟨ρ₂, v :: vs, σ₂, p₁.trans p₂, e₁.trans e₂ r₁.1.hasL, r₂, .cons (v₁.mono p₂ (r₁.1.immKeep e₂.keep)) v₂, h₂⟩

theorem EV.tuple {elts : List Expr} {k : Nat} {pos : Pos} (h : EVs c d fx (spliced (backTo pos (starEach elts fx.env))) σ (fun vs σ₁ => vs.length ≤ 1000 ∧ Q (.tup vs) σ₁)) : EV c d fx (eval (.Tuple elts k pos) fx.env) σ Q := fun ρ s A R r => by
  refine Tuple_ (wpAny_mono (h ρ s A R r) ?_ fun _ _ e => e)
  rintro xs s₁ ⟨ρ₁, vs, σ₁, p₁, e₁, r₁, v₁, hl, h₁⟩
  have hn : xs.length ≤ sizeLine := by rw [← v₁.length, sizeLine_eq]; omega
  refine wpAny_newTuple ?_ hn
  refine ⟨ρ₁, .tup vs, σ₁, p₁, e₁.trans (.push _) r₁.1.hasL, ⟨r₁.1.push _, r₁.2⟩, .tup (Heap.get?_push_size _ rfl) (v₁.mono (List.prefix_refl _) fun _ _ _ e => Heap.get?_push_of_some _ e), h₁⟩
theorem EV.list {elts : List Expr} {pos : Pos} (h : EVs c d fx (spliced (backTo pos (starEach elts fx.env))) σ (fun vs σ₁ => vs.length ≤ 1000 ∧ Q (.ref σ₁.hp.length) ⟨σ₁.loc, σ₁.hp ++ [.list vs]⟩)) : EV c d fx (eval (.List elts pos) fx.env) σ Q := fun ρ s A R r => by
  refine List_ (wpAny_mono (h ρ s A R r) ?_ fun _ _ e => e)
  rintro xs s₁ ⟨ρ₁, vs, ⟨loc₁, hp₁⟩, p₁, e₁, r₁, v₁, hl, h₁⟩
  have hn : xs.length ≤ sizeLine := by rw [← v₁.length, sizeLine_eq]; omega
  refine wpAny_newObj_type ?_ (by show xs.toArray.size ≤ sizeLine; rw [List.size_toArray]; exact hn)
  have ho : OR (ρ₁ ++ [s₁.heap.objs.size]) (s₁.heap.push (listObj xs.toArray 0)) (.list vs) (listObj xs.toArray 0) := ⟨xs, 0, rfl, v₁.mono (pre_snoc ..) fun _ _ _ e => Heap.get?_push_of_some _ e⟩
  refine ⟨ρ₁ ++ [s₁.heap.objs.size], .ref hp₁.length, _, p₁.trans (pre_snoc ..), e₁.trans (.alloc _) r₁.1.hasL, ⟨r₁.1.alloc rfl ho, r₁.2⟩, .ref ?_, h₁⟩
  rw [← r₁.1.len, List.getElem?_append_right (Nat.le_refl _)]; simp
end
end Mine
namespace Mine
open PySem PySem.W PyProof.Rows

structure FExt (ρ : List Addr) (h : Heap) (ρ' : List Addr) (h' : Heap) : Prop where
  pre : ρ <+: ρ'
  new : ∀ a ∈ ρ', a ∈ ρ ∨ h.get? a = none
  keep : Keep ρ h h'
inductive FPost (c : Cx) (ρ : List Addr) (s : Shared) (Q : V → List O → Prop) (r : Result) (s' : Shared) : Prop
  | mk (ρ' : List Addr) (v : V) (hp' : List O) (y : Value) (e : r = .ok (.ret y)) (x : FExt ρ s.heap ρ' s'.heap) (hr : HRelS c ρ' hp' s') (hv : VR ρ' s'.heap v y) (q : Q v hp') : FPost c ρ s Q r s'
noncomputable def FV (c : Cx) (k : Nat) (f : V) (vs : List V) (hp : List O) (Q : V → List O → Prop) : Prop :=
  ∀ ρ s A x xs, Room k A → c.Ok → HRelS c ρ hp s → VR ρ s.heap f x → VRs ρ s.heap vs xs → codeAny c.M A (.call x ⟨xs, []⟩) (FPost c ρ s Q) s

section
variable {c : Cx} {d k : Nat} {fx : Fx} {ρ ρ' ρ'' : List Addr} {σ σ' : St} {h h' h'' : Heap} {s s' s₁ : Shared} {A : Around} {Q : V → St → Prop} {X : Fl → St → Prop}
  {loc : List (Str × V)} {hp hp' : List O}

theorem FV.mono {f : V} {vs : List V} {Q Q' : V → List O → Prop} (h : FV c k f vs hp Q) (hq : ∀ v hp', Q v hp' → Q' v hp') : FV c k f vs hp Q' :=
  fun ρ s A x xs R ok r vf va => codeAny_mono (h ρ s A x xs R ok r vf va) fun _ _ ⟨ρ', v, hp', y, e, e1, r1, v1, q⟩ => ⟨ρ', v, hp', y, e, e1, r1, v1, hq _ _ q⟩
theorem FV.le {f : V} {vs : List V} {Q : V → List O → Prop} {k' : Nat} (h : FV c k f vs hp Q) (hk : k ≤ k') : FV c k' f vs hp Q :=
  fun ρ s A x xs R ok r vf va => h ρ s A x xs (R.le hk) ok r vf va

theorem Rel.after (r : Rel c fx ρ ⟨loc, hp⟩ h) (e : FExt ρ h ρ' h') (r' : HRel c ρ' hp' h') : Rel c fx ρ' ⟨loc, hp'⟩ h' := by
  have k : ImmKeep h h' := r.toHRel.immKeep e.keep
  obtain ⟨m, ⟨o₁, es, ep, hL, hr⟩, hv⟩ := r.loc
  exact { toHRel := r', ok := r.ok, loc := ⟨m, ⟨o₁, es, ep, e.keep _ _ r.lapart hL, hr⟩, fun x v q => let ⟨u, h1, h2⟩ := hv x v q; ⟨u, h1, h2.mono e.pre k⟩⟩,
          lfresh := r.lfresh,
          lapart := fun m => by
            rcases e.new _ m with m | z
            · exact r.lapart m
            · rw [hL] at z; cases z
          pre := r.pre.trans e.pre, glob := r.glob, bltn := r.bltn, kind := r.kind, cells := r.cells }
theorem FExt.ext (e : FExt ρ h ρ' h') : Ext fx ρ h ρ' h' := ⟨e.new, e.keep.sub fun _ m => .tail _ m⟩

theorem callFV {f : V} {x : Value} {vs : List V} {xs : List Value} (R : Room d A) (hk : k ≤ d) (r : RelS c fx ρ σ s) (vf : VR ρ s.heap f x) (va : VRs ρ s.heap vs xs)
    (h : FV c k f vs σ.hp (fun v hp' => Q v ⟨σ.loc, hp'⟩)) : wpAny c.M A (call x xs) (Post c fx ρ s Q) noE s := by
  obtain ⟨loc, hp⟩ := σ
  refine wpAny_call (codeAny_mono (h ρ s A x xs (R.le hk) r.1.ok ⟨r.1.toHRel, r.2⟩ vf va) ?_)
  rintro _ s' ⟨ρ', v, hp', y, rfl, e, r', hv, q⟩
  exact ⟨ρ', v, ⟨loc, hp'⟩, e.pre, e.ext, ⟨r.1.after e r'.1, r'.2⟩, hv, q⟩

noncomputable def plainArgs : List Expr → Bool
  | [] => true
  | .Starred _ _ :: _ => false
  | _ :: r => plainArgs r
theorem star_plain {env : Env} : ∀ {args : List Expr}, plainArgs args = true → starEach args env = args.map fun e => (false, eval e env)
  | [], _ => rfl
  | e :: r, q => by
    cases e <;> first | (simp only [plainArgs] at q; cases q) | (simp only [plainArgs] at q; simp only [starEach, List.map_cons, star_plain q])
theorem backTo_plain {pos : Pos} {env : Env} (args : List Expr) : backTo pos (args.map fun e => (false, eval e env)) = args.map fun e => (false, eval e env) := by
  unfold backTo
  rw [List.map_map]
  rfl
theorem any_plain {env : Env} (args : List Expr) : (args.map fun e => (false, eval e env)).any (·.1) = false := by
  induction args with
  | nil => rfl
  | cons e r ih => simp only [List.map_cons, List.any_cons, ih]; rfl
theorem evalArgs_V {M : Model} {E : Value → Shared → Prop} {env : Env} {f : Value} {R : Args → Shared → Prop} (args : List Expr)
    (h : wpAny M A (spliced (args.map fun e => (false, eval e env))) (fun vs s' => R ⟨vs, []⟩ s') E s) : wpAny M A (evalArgs f true (args.map fun e => (false, eval e env)) []) R E s := by
  cases args with
  | nil =>
    unfold evalArgs
    show wpAny M A (spliced [] >>= _) R E s
    refine wpAny_bind (wpAny_mono h (fun vs s' h' => ?_) fun _ _ x => x)
    refine wpAny_holding ?_
    exact wpAny_bind (wpAny_pure (wpAny_bind (wpAny_pure (wpAny_pure h'))))
  | cons e r => exact Calls.evalArgs_plain h
theorem callWithV {pos : Pos} {f : Value} {first : List Value} {args : List Expr} {P : Heap → Prop} {G : List V → St → Prop} (R : Room d A) (r : RelS c fx ρ σ s) (hpl : plainArgs args = true)
    (hk : ∀ h, P h → ∃ k, (k = Keeper.frame ∨ k = Keeper.machine ∨ k = Keeper.boundFrame) ∧ Looks c.M h (keeperOf f) k)
    (h : EVs c d fx (spliced (backTo pos (starEach args fx.env))) σ G)
    (hP : ∀ ρ' s' σ' vs, ρ <+: ρ' → Ext fx ρ s.heap ρ' s'.heap → RelS c fx ρ' σ' s' → G vs σ' → P s'.heap)
    (hc : ∀ ρ' s' vs xs σ', ρ <+: ρ' → Ext fx ρ s.heap ρ' s'.heap → RelS c fx ρ' σ' s' → VRs ρ' s'.heap vs xs → G vs σ' → wpAny c.M A (call f (first ++ xs)) (Post c fx ρ' s' Q) noE s') :
    wpAny c.M A (callWith pos f first (backTo pos (starEach args fx.env)) []) (Post c fx ρ s Q) noE s := by
  have hh := h ρ s A R r
  rw [star_plain hpl, backTo_plain] at hh ⊢
  refine callWith_of (P := P) (by rw [any_plain]; rfl) hk (evalArgs_V args (wpAny_mono hh ?_ fun _ _ e => e))
  rintro xs s₁ ⟨ρ₁, vs, σ₁, p₁, e₁, r₁, v₁, h₁⟩
  exact ⟨hP ρ₁ s₁ σ₁ vs p₁ e₁ r₁ h₁, wpAny_mono (hc ρ₁ s₁ vs xs σ₁ p₁ e₁ r₁ v₁ h₁) (fun _ _ z => z.trans p₁ e₁ r₁) fun _ _ e => e⟩

theorem EV.call {x : Str} {np pos : Pos} {args : List Expr} {a : Addr} (k : Nat) (e : nsIn c.K mainGlobals x = some (some (.ref a))) (hk : keepIn c.K (.ref a) = true)
    (h : EVs c d fx (spliced (backTo pos (starEach args fx.env))) σ (fun vs σ₂ => FV c k (.top a) vs σ₂.hp (fun v hp' => Q v ⟨σ₂.loc, hp'⟩)))
    (hkd : k ≤ d := by decide) (hpl : plainArgs args = true := by rfl) (hx : fx.env.kindOf x = some .globalImplicit := by rfl) (hd : (x == ("__debug__" : Str)) = false := by decide) :
    EV c d fx (eval (.Call (.Name x np) args [] pos) fx.env) σ Q := fun ρ s A R r => by
  refine Call_ ?_
  refine Calls.Name_function_global r.1.kind hx (Calls.loadGlobal_global r.1.gNs (mg_of r.1.ok.k r.1.ok.t.g e) ?_) hd
  refine callWithV (P := fun h => c.K.In h) R r hpl (fun h X => keeps_K hk h X) h (fun ρ' s' σ' vs p e r' _ => r'.1.ok.k.keeps r'.1.keep) fun ρ' s' vs xs σ' p e r' va hf => ?_
  exact callFV R hkd r' (.top a) va hf
theorem EV.callB {x : Str} {np pos : Pos} {args : List Expr} {id : String} (e : nsIn c.K mainGlobals x = some none) (hv : bootBuiltins x = some (.builtin id)) (hn : x ≠ "__name__")
    (h : EVs c d fx (spliced (backTo pos (starEach args fx.env))) σ (fun vs σ₂ => OVs c d fx (fun xs => PySem.call (.builtin id) xs) vs σ₂ Q))
    (hpl : plainArgs args = true := by rfl) (hx : fx.env.kindOf x = some .globalImplicit := by rfl) (hd : (x == ("__debug__" : Str)) = false := by decide) :
    EV c d fx (eval (.Call (.Name x np) args [] pos) fx.env) σ Q := fun ρ s A R r => by
  refine Call_ ?_
  refine Calls.Name_function_global r.1.kind hx (Calls.loadGlobal_builtin r.1.gNs (mg_none_of r.1.ok.k r.1.ok.t.g e) r.1.bNs ((r.1.ok.t.builtins x hn).trans hv) ?_) hd
  exact callWithV (P := fun _ => True) R r hpl (fun h _ => ⟨.machine, .inr (.inl rfl), Looks.of_pure rfl⟩) h (fun _ _ _ _ _ _ _ _ => trivial) fun ρ' s' vs xs σ' p e r' va hf => hf ρ' s' A xs R r' va
theorem EV.callT {x : Str} {np pos : Pos} {args : List Expr} {id : String} (e : nsIn c.K mainGlobals x = some none) (hv : bootBuiltins x = some (.type id)) (hn : x ≠ "__name__")
    (h : EVs c d fx (spliced (backTo pos (starEach args fx.env))) σ (fun vs σ₂ => OVs c d fx (fun xs => PySem.call (.type id) xs) vs σ₂ Q))
    (hpl : plainArgs args = true := by rfl) (hx : fx.env.kindOf x = some .globalImplicit := by rfl) (hd : (x == ("__debug__" : Str)) = false := by decide) :
    EV c d fx (eval (.Call (.Name x np) args [] pos) fx.env) σ Q := fun ρ s A R r => by
  refine Call_ ?_
  refine Calls.Name_function_global r.1.kind hx (Calls.loadGlobal_builtin r.1.gNs (mg_none_of r.1.ok.k r.1.ok.t.g e) r.1.bNs ((r.1.ok.t.builtins x hn).trans hv) ?_) hd
  exact callWithV (P := fun _ => True) R r hpl (fun h _ => ⟨.machine, .inr (.inl rfl), Looks.of_pure rfl⟩) h (fun _ _ _ _ _ _ _ _ => trivial) fun ρ' s' vs xs σ' p e r' va hf => hf ρ' s' A xs R r' va

theorem NsR.get {ρ : List Addr} {h : Heap} {n : Str} {v : V} : ∀ {kvs : List (Str × V)} {es : List DictEntry}, NsR ρ h kvs es → kvs.lookup n = some v → ∃ x, getL n es = some (some x) ∧ VR ρ h v x
  | [], [], _, e => by cases e
  | (m, u) :: kvs, en :: es, r, e => by
    obtain ⟨⟨t, hk⟩, hv, hr⟩ := r
    rw [List.lookup_cons] at e
    unfold getL
    rw [List.find?_cons, hk]
    cases hb : n == m with
    | true =>
      rw [hb] at e; cases e
      have := beq_iff_eq.mp hb; subst this
      have : Value.isStr (.str n t) n = true := by simp [Value.isStr]
      rw [this]; exact ⟨_, rfl, hv⟩
    | false =>
      rw [hb] at e
      have : Value.isStr (.str m t) n = false := by
        simp only [Value.isStr]
        cases q : m == n with
        | false => rfl
        | true => rw [beq_iff_eq.mp q] at hb; simp at hb
      rw [this]
      obtain ⟨x, h1, h2⟩ := NsR.get hr e
      unfold getL at h1
      dsimp only
      cases hf : es.find? (·.key.isStr n) with
      | none => rw [hf] at h1; dsimp only at h1; split at h1 <;> cases h1
      | some e' => rw [hf] at h1; exact ⟨x, h1, h2⟩
  | _ :: _, [], r, _ => r.elim
  | [], _ :: _, r, _ => r.elim
theorem NsR.noRef {ρ : List Addr} {h : Heap} : ∀ {kvs : List (Str × V)} {es : List DictEntry}, NsR ρ h kvs es → es.any (·.refKey) = false
  | [], [], _ => rfl
  | (m, u) :: kvs, en :: es, r => by
    obtain ⟨⟨t, hk⟩, hv, hr⟩ := r
    rw [List.any_cons, hr.noRef, Bool.or_false]
    unfold DictEntry.refKey; rw [hk]
  | _ :: _, [], r => r.elim
  | [], _ :: _, r => r.elim
theorem NsR.put {ρ : List Addr} {h : Heap} {n : Str} {hsh : Int} {t : Tok} {v : V} {x : Value} (hv : VR ρ h v x) : ∀ {kvs : List (Str × V)} {es : List DictEntry}, NsR ρ h kvs es → NsR ρ h (put n v kvs) (putL n hsh (.str n t) x es)
  | [], [], _ => ⟨⟨t, rfl⟩, hv, trivial⟩
  | (m, u) :: kvs, en :: es, r => by
    obtain ⟨⟨t', hk⟩, hu, hr⟩ := r
    unfold Mine.put putL
    rw [hk]
    cases hb : n == m with
    | true =>
      have := beq_iff_eq.mp hb; subst this
      have : Value.isStr (.str n t') n = true := by simp [Value.isStr]
      rw [this]; exact ⟨⟨t', rfl⟩, hv, hr⟩
    | false =>
      have : Value.isStr (.str m t') n = false := by
        simp only [Value.isStr]
        cases q : m == n with
        | false => rfl
        | true => rw [beq_iff_eq.mp q] at hb; simp at hb
      rw [this]; exact ⟨⟨t', hk⟩, hu, NsR.put hv hr⟩
  | _ :: _, [], r => r.elim
  | [], _ :: _, r => r.elim
theorem NsR.length {ρ : List Addr} {h : Heap} : ∀ {kvs : List (Str × V)} {es : List DictEntry}, NsR ρ h kvs es → kvs.length = es.length
  | [], [], _ => rfl
  | _ :: _, _ :: _, r => congrArg (· + 1) (NsR.length r.2.2)
  | _ :: _, [], r => r.elim
  | [], _ :: _, r => r.elim
noncomputable def V.handed : V → Bool
  | .bi id => (withoutEnding? id "#data").isNone
  | _ => true
theorem VR.handed {v : V} {x : Value} (r : VR ρ h v x) (e : v.handed = true) : handedIn x = true := by
  cases r <;> first | rfl | exact e

theorem putL_len (name : Str) (hsh : Int) (key v : Value) : ∀ es : List DictEntry, (putL name hsh key v es).length ≤ es.length + 1
  | [] => by simp [putL]
  | e :: r => by
    have := putL_len name hsh key v r
    unfold putL; split <;> simp <;> omega
end
end Mine
namespace Mine
open PySem PySem.W PyProof.Rows

section
variable {c : Cx} {d k : Nat} {fx : Fx} {ρ ρ' ρ'' : List Addr} {σ σ' : St} {h h' h'' : Heap} {s s' s₁ : Shared} {A : Around} {Q : V → List O → Prop} {X : Fl → St → Prop}
  {loc : List (Str × V)} {hp hp' : List O}

theorem lookup_snoc {α : Type} {x n : Str} {a : α} {l : List (Str × α)} : (l ++ [(n, a)]).lookup x = (l.lookup x).or (if x == n then some a else none) := by
  rw [List.lookup_append, List.lookup_cons]
  cases l.lookup x <;> cases x == n <;> rfl
theorem lookup_none_of {α : Type} {x : Str} : ∀ {l : List (Str × α)}, x ∉ l.map (·.1) → l.lookup x = none
  | [], _ => rfl
  | (n, a) :: r, h => by
    rw [List.lookup_cons]
    have : (x == n) = false := by
      cases q : x == n with
      | false => rfl
      | true => exact absurd (beq_iff_eq.mp q ▸ .head _) h
    rw [this]; exact lookup_none_of fun m => h (.tail _ m)
theorem lookup_rev {α : Type} {x : Str} : ∀ {l : List (Str × α)}, (l.map (·.1)).Nodup → l.reverse.lookup x = l.lookup x
  | [], _ => rfl
  | (n, a) :: r, h => by
    rw [List.map_cons, List.nodup_cons] at h
    rw [List.reverse_cons, lookup_snoc, lookup_rev h.2, List.lookup_cons]
    cases hb : x == n with
    | true =>
      rw [lookup_none_of (by rw [beq_iff_eq.mp hb]; exact h.1)]; rfl
    | false => simp
theorem zip_keys {α : Type} : ∀ {ns : List Str} {xs : List α}, ns.length = xs.length → (ns.zip xs).map (·.1) = ns
  | [], [], _ => rfl
  | n :: ns, x :: xs, e => by simp only [List.zip_cons_cons, List.map_cons, zip_keys (Nat.succ.inj e)]
theorem VRs.zipLook {ρ : List Addr} {h : Heap} {x : Str} {v : V} : ∀ {ns : List Str} {vs : List V} {xs : List Value}, VRs ρ h vs xs → (ns.zip vs).lookup x = some v → ∃ u, (ns.zip xs).lookup x = some u ∧ VR ρ h v u
  | [], _, _, _, e => by cases e
  | n :: ns, _, _, .nil, e => by cases e
  | n :: ns, _, _, .cons a b, e => by
    rw [List.zip_cons_cons, List.lookup_cons] at e ⊢
    cases hb : x == n with
    | true => rw [hb] at e; cases e; exact ⟨_, rfl, a⟩
    | false => rw [hb] at e; exact b.zipLook e
theorem VRs.zipNone {ρ : List Addr} {h : Heap} {x : Str} : ∀ {ns : List Str} {vs : List V} {xs : List Value}, VRs ρ h vs xs → (ns.zip vs).lookup x = none → (ns.zip xs).lookup x = none
  | [], _, _, _, e => rfl
  | n :: ns, _, _, .nil, e => rfl
  | n :: ns, _, _, .cons a b, e => by
    rw [List.zip_cons_cons, List.lookup_cons] at e ⊢
    cases hb : x == n with
    | true => rw [hb] at e; cases e
    | false => rw [hb] at e; exact b.zipNone e

noncomputable abbrev retQ (Q : V → List O → Prop) : Fl → St → Prop := fun fl σ => match fl with | .ret v => Q v σ.hp | .next => Q .none σ.hp | _ => False
theorem Rel.enter {env : Env} {cl : List (Str × Nat)} {ns : List Str} {vs : List V} {xs : List Value} (ok : c.Ok) (r : HRel c ρ hp h) (hL : env.locals = h.objs.size) (hg : env.globals = mainGlobals) (hb : env.builtins = builtinsNs) (hk : env.scope.kind = .function)
    (hc : ClR ρ cl env.cells) (va : VRs ρ h vs xs) (hl : ns.length = vs.length) (hnd : ns.Nodup) (hn : h'.Ns env.locals (fun x => (ns.zip xs).reverse.lookup x)) (hkeep : ∀ b o, h.get? b = some o → h'.get? b = some o) :
    Rel c ⟨env, cl, ρ⟩ ρ ⟨ns.zip vs, hp⟩ h' :=
  { toHRel := r.ext hkeep, ok := ok,
    loc := ⟨_, hn, fun x v e => by
      obtain ⟨u, h1, h2⟩ := va.zipLook e
      refine ⟨u, ?_, h2.mono (List.prefix_refl _) fun _ _ _ e => hkeep _ _ e⟩
      rw [lookup_rev (by rw [zip_keys (hl.trans va.length)]; exact hnd)]; exact h1⟩
    lfresh := by show c.H₀.get? env.locals = none; rw [hL]; exact r.size₀ (Nat.le_refl _)
    lapart := fun m => by
      have := r.lt m
      rw [show (⟨env, cl, ρ⟩ : Fx).env.locals = h.objs.size from hL] at this
      exact Nat.lt_irrefl _ this
    pre := List.prefix_refl _, glob := hg, bltn := hb, kind := hk, cells := hc }

noncomputable def flV : Flow → Value
  | .ret v => v
  | _ => .none
theorem FPost.of {env : Env} {cl : List (Str × Nat)} {x : Flow} {s₀ s : Shared} (hk : ∀ b o, s₀.heap.get? b = some o → s.heap.get? b = some o) (hL : s₀.heap.get? env.locals = none)
    (h : PostX c ⟨env, cl, ρ⟩ ρ s (retQ Q) x s') : FPost c ρ s₀ Q (.ok (.ret (flV x))) s' := by
  obtain ⟨ρ', f, σ', e, r, hf, q⟩ := h
  have fe : FExt ρ s₀.heap ρ' s'.heap := by
    refine ⟨r.1.pre, fun a m => ?_, fun b o n z => e.keep b o (fun m => ?_) (hk b o z)⟩
    · rcases e.new a m with m | z
      · exact .inl m
      · right
        cases y : s₀.heap.get? a with
        | none => rfl
        | some o => rw [hk _ _ y] at z; cases z
    · rcases List.mem_cons.mp m with rfl | m
      · rw [z] at hL; cases hL
      · exact n m
  cases hf with
  | next => exact ⟨ρ', .none, σ'.hp, .none, rfl, fe, ⟨r.1.toHRel, r.2⟩, .none, q⟩
  | brk => exact q.elim
  | cont => exact q.elim
  | ret hv => exact ⟨ρ', _, σ'.hp, _, rfl, fe, ⟨r.1.toHRel, r.2⟩, hv, q⟩

theorem FV.def {a : Addr} {name qual : Str} {params : Arguments} {body : List Stmt} {scope : Scope} {dV kV doc pm cd ct oc : Value} {an od : Option Addr} {osl : Array (Option Value)} {ns : List Str} {vs : List V}
    (hK : c.K.lookup a = some ⟨oc, od, .func (fnX name qual params body scope [] dV kV doc pm an cd ct), osl⟩) (hcd : codeIn c.K cd qual = true)
    (hb : ∀ xs : List Value, ns.length = xs.length → bindArgs (fnX name qual params body scope [] dV kV doc pm an cd ct) ⟨xs, []⟩ = pure (ns.zip xs)) (hl : ns.length = vs.length) (hnd : ns.Nodup)
    (hloc : ∀ n ∈ ns, scope.names.lookup n = some .local) (hcell : ∀ x ∈ scope.names, x.2 ≠ .cell)
    (h : ∀ L ρ₀, ρ₀.length = hp.length → XV c k ⟨envX qual scope L a cd [], [], ρ₀⟩ (execs body (envX qual scope L a cd [])) ⟨ns.zip vs, hp⟩ (retQ Q))
    (hco : scope.isCoroutine = false := by rfl) (hgen : scope.isGenerator = false := by rfl) (hk : scope.kind = .function := by rfl) :
    FV c (k + 1) (.top a) vs hp Q := fun ρ s A x xs R ok r vf va => by
  cases vf using VR.topC
  have X := ok.k.keeps r.1.keep
  refine codeAny_call_def (fd := fnX name qual params body scope [] dV kV doc pm an cd ct) R.limit (X _ _ hK) rfl (ok.t.nolimit.keeps r.1.keep) (codeRec_of X hcd) rfl (.of_eq (hb xs (hl.trans va.length))) hcell (fun y hy => hloc _ ?_) (fun h₁ hn hk₁ => ?_) hco hgen hk
  · obtain ⟨n, v⟩ := y
    exact (List.of_mem_zip hy).1
  · have hw := h s.heap.objs.size ρ r.1.len ρ { s with heap := h₁, toks := s.toks + (ns.zip xs).length } (A.deeper (envX qual scope s.heap.objs.size a cd [])) (R.deeper _)
      ⟨Rel.enter (env := envX qual scope s.heap.objs.size a cd []) ok r.1 rfl rfl rfl hk trivial va hl hnd hn hk₁, r.2⟩
    refine wpAny_mono hw (fun fl s' z => ?_) fun _ _ z => z.elim
    have := FPost.of (env := envX qual scope s.heap.objs.size a cd []) (cl := []) hk₁ (get_none_of_lt (Nat.le_refl _)) z
    cases fl <;> exact this
theorem cellsFrom_shift (k : Nat) : ∀ (names : List (Str × NameKind)) (n : Nat) (acc : List (Str × Addr)), cellsFrom (k + n) names (acc.map fun p => (p.1, k + p.2)) = (cellsFrom n names acc).map fun p => (p.1, k + p.2)
  | [], _, _ => rfl
  | (nm, kd) :: r, n, acc => by
    unfold cellsFrom
    split
    · have := cellsFrom_shift k r (n + 1) ((nm, n) :: acc)
      rw [List.map_cons] at this
      exact this
    · exact cellsFrom_shift k r n acc
theorem bindC_eq {kindOf : Str → Option NameKind} {x : Str} (hx : kindOf x ≠ some .local) : ∀ {l : List (Str × Value)} {m : Str → Option Value}, (l.map (·.1)).Nodup → bindC kindOf l m x = (l.lookup x).or (m x)
  | [], _, _ => by simp [bindC]
  | (n, v) :: r, m, hnd => by
    rw [List.map_cons, List.nodup_cons] at hnd
    unfold bindC
    rw [bindC_eq hx hnd.2, List.lookup_cons]
    cases hb : x == n with
    | true =>
      have hh := beq_iff_eq.mp hb; subst hh
      rw [lookup_none_of hnd.1]; simp [hx]
    | false =>
      have hne : x ≠ n := fun e => by rw [e] at hb; simp at hb
      split <;> simp [hne]
theorem bindL_eq {kindOf : Str → Option NameKind} {x : Str} (hx : kindOf x = some .local) : ∀ {l : List (Str × Value)} {m : Str → Option Value}, (l.map (·.1)).Nodup → bindL kindOf l m x = (l.lookup x).or (m x)
  | [], _, _ => by simp [bindL]
  | (n, v) :: r, m, hnd => by
    rw [List.map_cons, List.nodup_cons] at hnd
    unfold bindL
    rw [bindL_eq hx hnd.2, List.lookup_cons]
    cases hb : x == n with
    | true =>
      have hh := beq_iff_eq.mp hb; subst hh
      rw [lookup_none_of hnd.1]; simp [hx]
    | false =>
      have hne : x ≠ n := fun e => by rw [e] at hb; simp at hb
      split <;> simp [hne]
noncomputable def clOf (n : Nat) (cs : List Str) : List (Str × Nat) := (cs.zipIdx.reverse).map fun p => (p.1, n + p.2)
theorem clR_of {ρ : List Addr} : ∀ {l : List (Str × Nat)} {f : Nat → Nat} {g : Nat → Addr}, (∀ p ∈ l, ρ[f p.2]? = some (g p.2)) → ClR ρ (l.map fun p => (p.1, f p.2)) (l.map fun p => (p.1, g p.2))
  | [], _, _, _ => trivial
  | (n, i) :: r, f, g, h => ⟨rfl, h _ (.head _), clR_of fun p m => h p (.tail _ m)⟩
theorem filter_lookup {α : Type} {p : Str → Bool} {x : Str} : ∀ {l : List (Str × α)} {v : α}, (l.filter fun q => p q.1).lookup x = some v → p x = true ∧ l.lookup x = some v
  | [], _, e => by cases e
  | (n, a) :: r, v, e => by
    rw [List.filter_cons] at e
    cases hp : p n with
    | true =>
      simp only [hp, if_true] at e
      rw [List.lookup_cons] at e ⊢
      cases hb : x == n with
      | true => rw [hb] at e; cases e; exact ⟨by rw [beq_iff_eq.mp hb]; exact hp, rfl⟩
      | false => rw [hb] at e; exact filter_lookup e
    | false =>
      simp only [hp, Bool.false_eq_true, if_false] at e
      obtain ⟨h1, h2⟩ := filter_lookup e
      refine ⟨h1, ?_⟩
      rw [List.lookup_cons]
      have : (x == n) = false := by
        cases q : x == n with
        | false => rfl
        | true => rw [beq_iff_eq.mp q, hp] at h1; cases h1
      rw [this]; exact h2

theorem FV.defC {a : Addr} {name qual : Str} {params : Arguments} {body : List Stmt} {scope : Scope} {dV kV doc pm cd ct oc : Value} {an od : Option Addr} {osl : Array (Option Value)} {ns : List Str} {vs : List V} {cs : List Str}
    (hK : c.K.lookup a = some ⟨oc, od, .func (fnX name qual params body scope [] dV kV doc pm an cd ct), osl⟩) (hcd : codeIn c.K cd qual = true)
    (hb : ∀ xs : List Value, ns.length = xs.length → bindArgs (fnX name qual params body scope [] dV kV doc pm an cd ct) ⟨xs, []⟩ = pure (ns.zip xs)) (hl : ns.length = vs.length) (hnd : ns.Nodup)
    (hcs : cellsFrom 0 scope.names [] = cs.zipIdx.reverse) (hcn : cs.Nodup) (hkn : ∀ n ∈ cs, scope.names.lookup n = some .cell) (hloc : ∀ n ∈ ns, scope.names.lookup n = some .local ∨ n ∈ cs)
    (h : ∀ L cells ρ₀, ρ₀.length = hp.length + cs.length → XV c k ⟨envX qual scope L a cd cells, clOf hp.length cs, ρ₀⟩ (execs body (envX qual scope L a cd cells))
      ⟨(ns.zip vs).filter (fun p => scope.names.lookup p.1 == some .local), hp ++ cs.map fun n => .cell ((ns.zip vs).lookup n)⟩ (retQ Q))
    (hco : scope.isCoroutine = false := by rfl) (hgen : scope.isGenerator = false := by rfl) (hk : scope.kind = .function := by rfl) :
    FV c (k + 1) (.top a) vs hp Q := fun ρ s A x xs R ok r vf va => by
  cases vf using VR.topC
  have X := ok.k.keeps r.1.keep
  have hkeys : (ns.zip xs).map (·.1) = ns := zip_keys (hl.trans va.length)
  have hcf : ∀ L, cellsFrom (L + 1) scope.names [] = (cs.zipIdx.reverse).map fun p => (p.1, L + 1 + p.2) := fun L => by
    have := cellsFrom_shift (L + 1) scope.names 0 []
    rw [List.map_nil, Nat.add_zero, hcs] at this; exact this
  have hmem : ∀ n ∈ cs, ∀ L, ∃ i, cs[i]? = some n ∧ (cellsFrom (L + 1) scope.names []).lookup n = some (L + 1 + i) := fun n hn L => by
    obtain ⟨i, hi, rfl⟩ := List.getElem_of_mem hn
    refine ⟨i, List.getElem?_eq_getElem hi, ?_⟩
    rw [hcf]
    have hnd' : (((cs.zipIdx.reverse).map fun p => (p.1, L + 1 + p.2)).map (·.1)).Nodup := by
      rw [List.map_map]
      have : ((fun p : Str × Nat => p.1) ∘ fun p : Str × Nat => (p.1, L + 1 + p.2)) = fun p => p.1 := rfl
      show ((cs.zipIdx.reverse).map fun p => p.1).Nodup
      rw [List.map_reverse, List.zipIdx_map_fst]
      exact List.pairwise_reverse.mpr (hcn.imp fun h e => h e.symm)
    exact lookup_of_mem_nodup hnd' (List.mem_map.mpr ⟨(cs[i], i), by rw [List.mem_reverse, List.mem_zipIdx_iff_getElem?]; exact List.getElem?_eq_getElem hi, rfl⟩)
  refine codeAny_call_function (fd := fnX name qual params body scope [] dV kV doc pm an cd ct) R.limit (X _ _ hK) rfl hco hgen rfl (codeRec_of X hcd) ((BindsTo.of_eq (hb xs (hl.trans va.length))) _ _ _ _ ?_)
  refine wpAny_newFunctionEnv_cells hk (fun y hy => ?_) fun env' he s' x => ?_
  · obtain ⟨n, v⟩ := y
    rcases hloc n (List.of_mem_zip hy).1 with q | q
    · exact .inl q
    · obtain ⟨i, _, e⟩ := hmem n q s.heap.objs.size
      exact .inr ⟨hkn n q, by show Option.isSome (List.lookup n _) = true; rw [e]; rfl⟩
  subst he
  refine ⟨(ok.t.nolimit.keeps r.1.keep).keeps x.toInCall.keep, codeAny_func ?_⟩
  obtain ⟨h₁, tk, rfl, hk₁⟩ := x.done
  have hρ : ∀ i, i < cs.length → (ρ ++ (List.range cs.length).map fun i => s.heap.objs.size + 1 + i)[hp.length + i]? = some (s.heap.objs.size + 1 + i) := fun i hi => by
    rw [← r.1.len, List.getElem?_append_right (Nat.le_add_right ..), Nat.add_sub_cancel_left, List.getElem?_map, List.getElem?_range hi]; rfl
  have pr : ρ <+: ρ ++ (List.range cs.length).map fun i => s.heap.objs.size + 1 + i := List.prefix_append ..
  have kk : ImmKeep s.heap h₁ := fun _ _ _ e => hk₁ _ _ e
  have vlook : ∀ n ∈ cs, (match (ns.zip vs).lookup n, (bindC (newEnv scope s.heap.objs.size mainGlobals (cellsFrom (s.heap.objs.size + 1) scope.names []) (qual ++ ".<locals>.") (some a) cd none builtinsNs).kindOf (ns.zip xs) (fun _ => none)) n with
      | some v, some u => VR ρ s.heap v u | none, none => True | _, _ => False) := fun n hn => by
    have hkl : (newEnv scope s.heap.objs.size mainGlobals (cellsFrom (s.heap.objs.size + 1) scope.names []) (qual ++ ".<locals>.") (some a) cd none builtinsNs).kindOf n ≠ some .local := by
      show scope.names.lookup n ≠ _
      rw [hkn n hn]; intro q; cases q
    rw [bindC_eq hkl (by rw [hkeys]; exact hnd)]
    cases q : (ns.zip vs).lookup n with
    | none => rw [va.zipNone q]; trivial
    | some v => obtain ⟨u, h1, h2⟩ := va.zipLook q; rw [h1]; exact h2
  have HR : HRel c (ρ ++ (List.range cs.length).map fun i => s.heap.objs.size + 1 + i) (hp ++ cs.map fun n => .cell ((ns.zip vs).lookup n)) h₁ := by
    refine ⟨fun b o e => hk₁ b o (r.1.keep b o e), by simp [r.1.len], ?_, fun b m => ?_, fun i b o e1 e2 => ?_⟩
    · rw [List.nodup_append]
      refine ⟨r.1.nodup, ?_, fun b hb b' hb' e => ?_⟩
      · exact List.pairwise_map.mpr (List.nodup_range.imp fun h e => h (Nat.add_left_cancel e))
      · obtain ⟨i, _, rfl⟩ := List.mem_map.mp hb'
        have z' : s.heap.objs.size + 1 + i < s.heap.objs.size := e ▸ r.1.lt hb
        omega
    · rcases List.mem_append.mp m with m | m
      · exact r.1.fresh b m
      · obtain ⟨i, _, rfl⟩ := List.mem_map.mp m
        exact r.1.size₀ (by omega)
    · by_cases hi : i < ρ.length
      · rw [List.getElem?_append_left hi] at e1
        rw [List.getElem?_append_left (by rw [← r.1.len]; exact hi)] at e2
        obtain ⟨y, h1, h2⟩ := r.1.obj i b o e1 e2
        exact ⟨y, hk₁ _ _ h1, h2.mono pr kk⟩
      · have hi' := Nat.le_of_not_lt hi
        rw [List.getElem?_append_right hi'] at e1
        rw [List.getElem?_append_right (by rw [← r.1.len]; exact hi'), ← r.1.len] at e2
        rw [List.getElem?_map] at e1 e2
        cases q : cs[i - ρ.length]? with
        | none => rw [q] at e2; cases e2
        | some n =>
          rw [q] at e2; cases e2
          have hlt := (List.getElem?_eq_some_iff.mp q).1
          rw [List.getElem?_range hlt] at e1; cases e1
          have hn := List.mem_of_getElem? q
          obtain ⟨j, hj, e⟩ := hmem n hn s.heap.objs.size
          have : j = i - ρ.length := by
            have q2 := List.pairwise_iff_getElem.mp hcn
            obtain ⟨l1, e1⟩ := List.getElem?_eq_some_iff.mp hj
            obtain ⟨l2, e2⟩ := List.getElem?_eq_some_iff.mp q
            rcases Nat.lt_trichotomy j (i - ρ.length) with hl | hl | hl
            · exact absurd (e1.trans e2.symm) (q2 _ _ l1 l2 hl)
            · exact hl
            · exact absurd (e2.trans e1.symm) (q2 _ _ l2 l1 hl)
          subst this
          obtain ⟨oc', h1, h2⟩ := x.cell n _ e
          refine ⟨oc', h1, _, h2, ?_⟩
          have vl := vlook n hn
          revert vl
          cases (ns.zip vs).lookup n <;> cases (bindC (newEnv scope s.heap.objs.size mainGlobals (cellsFrom (s.heap.objs.size + 1) scope.names []) (qual ++ ".<locals>.") (some a) cd none builtinsNs).kindOf (ns.zip xs) (fun _ => none)) n <;> intro vl <;>
            first | exact vl | exact vl.elim | exact vl.mono pr kk
  have RR : Rel c ⟨envX qual scope s.heap.objs.size a cd (cellsFrom (s.heap.objs.size + 1) scope.names []), clOf hp.length cs, ρ ++ (List.range cs.length).map fun i => s.heap.objs.size + 1 + i⟩
      (ρ ++ (List.range cs.length).map fun i => s.heap.objs.size + 1 + i) ⟨(ns.zip vs).filter (fun p => scope.names.lookup p.1 == some .local), hp ++ cs.map fun n => .cell ((ns.zip vs).lookup n)⟩ h₁ :=
    { toHRel := HR, ok := ok
      loc := ⟨_, x.toInCall.ns, fun y v e => by
        obtain ⟨e1, e2⟩ := filter_lookup (p := fun n => scope.names.lookup n == some .local) e
        obtain ⟨u, h1, h2⟩ := va.zipLook e2
        refine ⟨u, ?_, h2.mono pr kk⟩
        rw [bindL_eq (by exact beq_iff_eq.mp e1) (by rw [hkeys]; exact hnd), h1]; rfl⟩
      lfresh := r.1.size₀ (Nat.le_refl _)
      lapart := fun m => by
        rcases List.mem_append.mp m with m | m
        · exact Nat.lt_irrefl _ (r.1.lt m)
        · obtain ⟨i, _, e⟩ := List.mem_map.mp m
          have e' : s.heap.objs.size + 1 + i = s.heap.objs.size := e
          omega
      pre := List.prefix_refl _, glob := rfl, bltn := rfl, kind := hk
      cells := by
        show ClR _ (clOf hp.length cs) (cellsFrom (s.heap.objs.size + 1) scope.names [])
        rw [hcf]
        exact clR_of (f := fun i => hp.length + i) (g := fun i => s.heap.objs.size + 1 + i) fun p hp' => by
          rw [List.mem_reverse, List.mem_zipIdx_iff_getElem?] at hp'
          exact hρ p.2 (List.getElem?_eq_some_iff.mp hp').1 }
  have hw := h s.heap.objs.size (cellsFrom (s.heap.objs.size + 1) scope.names []) (ρ ++ (List.range cs.length).map fun i => s.heap.objs.size + 1 + i) (by simp [r.1.len])
    (ρ ++ (List.range cs.length).map fun i => s.heap.objs.size + 1 + i) { s with heap := h₁, toks := tk } (A.deeper (envX qual scope s.heap.objs.size a cd (cellsFrom (s.heap.objs.size + 1) scope.names []))) (R.deeper _) ⟨RR, r.2⟩
  refine wpAny_mono hw (fun fl s' z => ?_) fun _ _ z => z.elim
  obtain ⟨ρ', f, σ', e, r', hf, q⟩ := z
  have fe : FExt ρ s.heap ρ' s'.heap := by
    refine ⟨pr.trans r'.1.pre, fun a m => ?_, fun b o n z => e.keep b o (fun m => ?_) (hk₁ b o z)⟩
    · rcases e.new a m with m | z
      · rcases List.mem_append.mp m with m | m
        · exact .inl m
        · obtain ⟨i, _, rfl⟩ := List.mem_map.mp m
          exact .inr (get_none_of_lt (by omega))
      · right
        cases y : s.heap.get? a with
        | none => rfl
        | some o => have := hk₁ _ _ y; rw [show h₁.get? a = none from z] at this; cases this
    · rcases List.mem_cons.mp m with rfl | m
      · exact absurd (Heap.lt_size z) (Nat.lt_irrefl _)
      · rcases List.mem_append.mp m with m | m
        · exact n m
        · obtain ⟨i, _, rfl⟩ := List.mem_map.mp m
          have z' : s.heap.objs.size + 1 + i < s.heap.objs.size := Heap.lt_size z
          omega
  cases hf with
  | next => exact ⟨ρ', .none, σ'.hp, .none, rfl, fe, ⟨r'.1.toHRel, r'.2⟩, .none, q⟩
  | brk => exact q.elim
  | cont => exact q.elim
  | ret hv => exact ⟨ρ', _, σ'.hp, _, rfl, fe, ⟨r'.1.toHRel, r'.2⟩, hv, q⟩
end
theorem len1 {α β : Type} {n : α} {xs : List β} (h : [n].length = xs.length) : ∃ x, xs = [x] := by
  cases xs with
  | nil => cases h
  | cons x r => cases r with
    | nil => exact ⟨x, rfl⟩
    | cons _ _ => cases h
theorem len2 {α β : Type} {n m : α} {xs : List β} (h : [n, m].length = xs.length) : ∃ x y, xs = [x, y] := by
  cases xs with
  | nil => cases h
  | cons x r => obtain ⟨y, rfl⟩ := len1 (n := n) (xs := r) (Nat.succ.inj h); exact ⟨x, y, rfl⟩
theorem len3 {α β : Type} {n m k : α} {xs : List β} (h : [n, m, k].length = xs.length) : ∃ x y z, xs = [x, y, z] := by
  cases xs with
  | nil => cases h
  | cons x r => obtain ⟨y, z, rfl⟩ := len2 (n := n) (m := n) (xs := r) (Nat.succ.inj h); exact ⟨x, y, z, rfl⟩
end Mine
namespace Mine
open PySem PySem.W PyProof.Rows

section
variable {c : Cx} {d k : Nat} {fx : Fx} {ρ ρ' ρ'' : List Addr} {σ σ' : St} {h h' h'' : Heap} {s s' s₁ : Shared} {A : Around} {Q : V → St → Prop} {X : Fl → St → Prop}
  {loc loc' : List (Str × V)} {hp hp' : List O}

theorem XV.while_ {test : Expr} {body : List Stmt} {pos : Pos} (I : Nat → St → Prop) (n : Nat) (h0 : I n σ)
    (turn : ∀ n σ, I n σ → TV c d fx test σ (fun b σ₁ => if b then XV c d fx (execs body fx.env) σ₁ (fun f σ₂ => match f with
        | .next => ∃ m, m < n ∧ I m σ₂
        | .cont => ∃ m, m < n ∧ I m σ₂
        | .brk => X .next σ₂
        | .ret v => X (.ret v) σ₂) else X .next σ₁)) : XV c d fx (exec (.While test body [] pos) fx.env) σ X := fun ρ s A R r => by
  refine wpAny_While (codeAny_whileLoop (fun n s' => ∃ ρ' σ', Ext fx ρ s.heap ρ' s'.heap ∧ RelS c fx ρ' σ' s' ∧ I n σ') ?_ n ⟨ρ, σ, .refl _ _ _, r, h0⟩)
  rintro n s₁ ⟨ρ₁, σ₁, e₁, r₁, hI⟩
  refine wpAny_mono (turn n σ₁ hI ρ₁ s₁ A R r₁) ?_ fun _ _ z => z.elim
  rintro b s₂ ⟨ρ₂, σ₂, p₂, e₂, r₂, h₂⟩
  cases b with
  | true =>
    refine wpAny_mono (h₂ ρ₂ s₂ A R r₂) ?_ fun _ _ z => z.elim
    rintro f s₃ ⟨ρ₃, fl, σ₃, e₃, r₃, hf, h₃⟩
    have ee := (e₁.trans e₂ r₁.1.hasL).trans e₃ r₂.1.hasL
    cases hf with
    | next => obtain ⟨m, hm, hi⟩ := h₃; exact ⟨m, hm, ρ₃, σ₃, ee, r₃, hi⟩
    | cont => obtain ⟨m, hm, hi⟩ := h₃; exact ⟨m, hm, ρ₃, σ₃, ee, r₃, hi⟩
    | brk => exact ⟨ρ₃, .next, σ₃, ee, r₃, .next, h₃⟩
    | ret hv => exact ⟨ρ₃, _, σ₃, ee, r₃, .ret hv, h₃⟩
  | false => exact wpAny_execs_nil ⟨ρ₂, .next, σ₂, e₁.trans e₂ r₁.1.hasL, r₂, .next, h₂⟩

theorem OU1.name {x : Str} {pos : Pos} {v : V} {Q : St → Prop} (q : Q ⟨put x v σ.loc, σ.hp⟩) (hx : fx.env.kindOf x = some .local := by rfl) : OU1 c d fx (fun y => assign (.Name x pos) fx.env y) v σ (fun _ σ' => Q σ') := fun ρ s A y _ r hv => by
  show wpAny c.M A (PySem.assign (.Name x pos) fx.env y) _ _ s
  rw [PySem.assign_Name]
  exact wpAny_bind (wpAny_standAt (wpAny_bindName (storeL r hv (fun s' e' r' => ⟨ρ, _, List.prefix_refl _, e', r', q⟩) hx)))
structure It (c : Cx) (ρ₀ : List Addr) (it : Addr) (n : Nat) (item : Nat → V) (C : St → Prop) (J : Nat → Heap → Prop) : Prop where
  next : ∀ fx i ρ σ s A (R : Option Value → Shared → Prop) (E : Value → Shared → Prop), i < n → A.handled = none → C σ → ρ₀ <+: ρ → RelS c fx ρ σ s → J i s.heap →
    (∀ x h' tk, VR ρ h' (item i) x → J (i + 1) h' → Keep [it] s.heap h' → R (some x) { s with heap := h', toks := tk }) → wpAny c.M A (pyNext (.ref it)) R E s
  done : ∀ fx ρ σ s A (R : Option Value → Shared → Prop) (E : Value → Shared → Prop), A.handled = none → C σ → ρ₀ <+: ρ → RelS c fx ρ σ s → J n s.heap →
    (∀ h' tk, Keep [it] s.heap h' → R none { s with heap := h', toks := tk }) → wpAny c.M A (pyNext (.ref it)) R E s
  self : ∀ i (s : Shared) A (R : Value → Shared → Prop) (E : Value → Shared → Prop), J i s.heap → R (.ref it) s → wpAny c.M A (pyIter (.ref it)) R E s
  keep : ∀ i h h', J i h → (∀ o, h.get? it = some o → h'.get? it = some o) → ImmKeep h h' → J i h'
  at_ : ∀ i h, J i h → ∃ o, h.get? it = some o ∧ ¬ Fix o
theorem Rel.floor (r : Rel c fx ρ σ h) {ρ₀ : List Addr} (h1 : fx.ρ₀ <+: ρ₀) (h2 : ρ₀ <+: ρ) : Rel c { fx with ρ₀ := ρ₀ } ρ σ h :=
  { toHRel := r.toHRel, ok := r.ok, loc := r.loc, lfresh := r.lfresh, lapart := r.lapart, pre := h2, glob := r.glob, bltn := r.bltn, kind := r.kind, cells := r.cells.mono h1 }
theorem Rel.unfloor {ρ₀ : List Addr} (h1 : fx.ρ₀ <+: ρ₀) (hc : ClR fx.ρ₀ fx.cl fx.env.cells) (r : Rel c { fx with ρ₀ := ρ₀ } ρ σ h) : Rel c fx ρ σ h :=
  { toHRel := r.toHRel, ok := r.ok, loc := r.loc, lfresh := r.lfresh, lapart := r.lapart, pre := h1.trans r.pre, glob := r.glob, bltn := r.bltn, kind := r.kind, cells := hc }

noncomputable abbrev forX (I : Nat → St → Prop) (i : Nat) (X : Fl → St → Prop) : Fl → St → Prop := fun f σ₂ => match f with
  | .next => I (i + 1) σ₂
  | .cont => I (i + 1) σ₂
  | .brk => X .next σ₂
  | .ret v => X (.ret v) σ₂
theorem forIt {target : Expr} {body : List Stmt} {it : Addr} {n : Nat} {item : Nat → V} {C : St → Prop} {J : Nat → Heap → Prop} {s₀ : Shared} {E : Value → Shared → Prop} (R : Room d A) (T : It c ρ it n item C J) (r : RelS c fx ρ σ s)
    (e₀ : Ext fx ρ s₀.heap ρ s.heap) (hnew : s₀.heap.get? it = none) (hit : it ∉ ρ) (hit0 : c.H₀.get? it = none) (hitL : it ≠ fx.env.locals) (hJ : J 0 s.heap)
    (I : Nat → St → Prop) (h0 : I 0 σ) (hC : ∀ i σ, I i σ → C σ)
    (turn : ∀ i σ, i < n → I i σ → OU1 c d { fx with ρ₀ := ρ } (fun y => PySem.assign target fx.env y) (item i) σ (fun _ σ₁ => XV c d { fx with ρ₀ := ρ } (execs body fx.env) σ₁ (forX I i X)))
    (fin : ∀ σ, I n σ → X .next σ) (ht : ∀ v, letOwnedTupleGo target (.ref it) v = pure ()) :
    codeAny c.M A (.forLoop target (.ref it) body [] fx.env) (fun r s' => match r with | .ok f => PostX c fx ρ s₀ X f s' | .error e => cameBackBy c.M A fx.env E e s') s := by
  have hcl := r.1.cells
  have hpre := r.1.pre
  refine codeAny_forLoop (fun m s' => ∃ i ρ' σ', n - i = m ∧ i ≤ n ∧ Ext fx ρ s₀.heap ρ' s'.heap ∧ it ∉ ρ' ∧ RelS c { fx with ρ₀ := ρ } ρ' σ' s' ∧ J i s'.heap ∧ I i σ') ?_ n ⟨0, ρ, σ, rfl, Nat.zero_le _, e₀, hit, ⟨r.1.floor r.1.pre (List.prefix_refl _), r.2⟩, hJ, h0⟩ ht
  rintro m s₁ ⟨i, ρ₁, σ₁, hm, hin, e₁, hit1, r₁, j₁, hI⟩
  obtain ⟨oi, hoi, hnf⟩ := T.at_ _ _ j₁
  have side : ∀ h', Keep [it] s₁.heap h' → Rel c { fx with ρ₀ := ρ } ρ₁ σ₁ h' := fun h' k => r₁.1.side k (fun b m => by rw [List.mem_singleton] at m; subst m; exact hit0) (fun b m => by rw [List.mem_singleton] at m; subst m; exact hit1)
    (fun m => by rw [List.mem_singleton] at m; exact hitL m.symm) (fun b m o e => by rw [List.mem_singleton] at m; subst m; rw [hoi] at e; cases e; exact hnf)
  have ext : ∀ h', Keep [it] s₁.heap h' → Ext fx ρ s₀.heap ρ₁ h' := fun h' k =>
    ⟨e₁.new, fun b o nb e => k b o (fun m => by rw [List.mem_singleton] at m; subst m; rw [hnew] at e; cases e) (e₁.keep b o nb e)⟩
  rcases Nat.lt_or_eq_of_le hin with hlt | rfl
  · refine T.next { fx with ρ₀ := ρ } i ρ₁ σ₁ s₁ A _ _ hlt R.handled (hC _ _ hI) r₁.1.pre r₁ j₁ fun x h' tk hx j' k' => ?_
    have r₂ : RelS c { fx with ρ₀ := ρ } ρ₁ σ₁ { s₁ with heap := h', toks := tk } := ⟨side h' k', r₁.2⟩
    refine wpAny_mono (turn i σ₁ hlt hI ρ₁ { s₁ with heap := h', toks := tk } A x R r₂ hx) ?_ fun _ _ z => z.elim
    rintro _ s₂ ⟨ρ₂, σ₂, p₂, e₂, r₂', h₂⟩
    have hit2 : it ∉ ρ₂ := fun q => by
      rcases e₂.new it q with q | q
      · exact hit1 q
      · obtain ⟨o, ho, _⟩ := T.at_ _ _ j'; rw [show h'.get? it = none from q] at ho; cases ho
    have k2 : ∀ o, h'.get? it = some o → s₂.heap.get? it = some o := fun o e => e₂.keep it o (fun m => by
      rcases List.mem_cons.mp m with q | q
      · exact hitL q
      · exact hit1 q) e
    have j₂ : J (i + 1) s₂.heap := T.keep _ _ _ j' k2 (r₂.1.immKeep e₂.keep)
    refine wpAny_mono (h₂ ρ₂ s₂ A R r₂') ?_ fun _ _ z => z.elim
    rintro f s₃ ⟨ρ₃, fl, σ₃, e₃, r₃, hf, h₃⟩
    have hit3 : it ∉ ρ₃ := fun q => by
      rcases e₃.new it q with q | q
      · exact hit2 q
      · obtain ⟨o, ho, _⟩ := T.at_ _ _ j₂; rw [q] at ho; cases ho
    have k3 : ∀ o, s₂.heap.get? it = some o → s₃.heap.get? it = some o := fun o e => e₃.keep it o (fun m => by
      rcases List.mem_cons.mp m with q | q
      · exact hitL q
      · exact hit2 q) e
    have j₃ : J (i + 1) s₃.heap := T.keep _ _ _ j₂ k3 (r₂'.1.immKeep e₃.keep)
    have e₂' : Ext fx ρ₁ h' ρ₂ s₂.heap := ⟨e₂.new, e₂.keep⟩
    have e₃' : Ext fx ρ₂ s₂.heap ρ₃ s₃.heap := ⟨e₃.new, e₃.keep⟩
    have hL2 : ∃ o, h'.get? fx.env.locals = some o := r₂.1.hasL
    have hL3 : ∃ o, s₂.heap.get? fx.env.locals = some o := r₂'.1.hasL
    have ee : Ext fx ρ s₀.heap ρ₃ s₃.heap := ((ext h' k').trans e₂' hL2).trans e₃' hL3
    have r₃' : RelS c fx ρ₃ σ₃ s₃ := ⟨r₃.1.unfloor hpre hcl, r₃.2⟩
    cases hf with
    | next => exact ⟨n - (i + 1), by omega, i + 1, ρ₃, σ₃, rfl, hlt, ee, hit3, r₃, j₃, h₃⟩
    | cont => exact ⟨n - (i + 1), by omega, i + 1, ρ₃, σ₃, rfl, hlt, ee, hit3, r₃, j₃, h₃⟩
    | brk => exact ⟨ρ₃, .next, σ₃, ee, r₃', .next, h₃⟩
    | ret hv => exact ⟨ρ₃, _, σ₃, ee, r₃', .ret hv, h₃⟩
  · refine T.done { fx with ρ₀ := ρ } ρ₁ σ₁ s₁ A _ _ R.handled (hC _ _ hI) r₁.1.pre r₁ j₁ fun h' tk k' => ?_
    exact wpAny_execs_nil ⟨ρ₁, .next, σ₁, ext h' k', ⟨(side h' k').unfloor hpre hcl, r₁.2⟩, .next, fin _ hI⟩

theorem notFix_of {o : Obj} {T : String} (h : o.cls = .type T) (ht : (T != "tuple" && T != "method" && T != "code") = true) : ¬ Fix o := fun f => by
  simp only [Bool.and_eq_true, bne_iff_ne, ne_eq] at ht
  rcases f with ⟨_, _, rfl⟩ | ⟨_, _, rfl⟩ | ⟨e, _⟩
  · simp at h; exact ht.1.1 h.symm
  · simp at h; exact ht.1.2 h.symm
  · rw [h] at e; simp at e; exact ht.2 e
theorem It.list {l : Nat} {vs : List V} {a it : Addr} (hl : ρ[l]? = some a) : It c ρ it vs.length (fun i => vs.getD i .none) (fun σ => σ.hp[l]? = some (.list vs)) (fun i h => h.IsListIter it a i) where
  next := fun fx i ρ' σ s A R E hi hh hC hp r hJ q => by
    obtain ⟨x, h1, xs, n, rfl, h2⟩ := r.1.obj l a _ (pre_get hp hl) hC
    have hi' : i < xs.length := h2.length ▸ hi
    obtain ⟨y, hy, hv⟩ := h2.get (i := i) (u := vs.getD i .none) (by rw [List.getD_eq_getElem?_getD, List.getElem?_eq_getElem hi]; rfl)
    refine wpAny_pyNext_list_item hJ ⟨_, h1, rfl, n, rfl⟩ (x := y) (by simpa using hy) fun h' hit hs => ?_
    have k : Keep [it] s.heap h' := .of_sameBut hs
    refine q y h' s.toks (hv.mono (List.prefix_refl _) fun b o f e => k b o (fun m => ?_) e) hit k
    rw [List.mem_singleton] at m; subst m
    obtain ⟨o', e1, e2, e3⟩ := hJ
    rw [e] at e1; cases e1
    exact notFix_of e2 (by decide) f
  done := fun fx ρ' σ s A R E hh hC hp r hJ q => by
    obtain ⟨x, h1, xs, n, rfl, h2⟩ := r.1.obj l a _ (pre_get hp hl) hC
    refine wpAny_pyNext_list_end hh hJ ⟨_, h1, rfl, n, rfl⟩ (by simp [h2.length]) fun h' hx => q h' s.toks (.of_extBut hx)
  self := fun i s A R E hJ h => wpAny_pyIter_listiter hJ h
  keep := fun i h h' hJ k _ => let ⟨o, e, r⟩ := hJ; ⟨o, k o e, r⟩
  at_ := fun i h ⟨o, e, e2, e3⟩ => ⟨o, e, notFix_of e2 (by decide)⟩
theorem It.topList {xs : List Value} {vs : List V} {a it : Addr} (hl : c.H₀.IsList a xs.toArray) (hv : ∀ ρ h, VRs ρ h vs xs) : It c ρ it vs.length (fun i => vs.getD i .none) (fun σ => True) (fun i h => h.IsListIter it a i) where
  next := fun fx i ρ' σ s A R E hi hh hC hp r hJ q => by
    have hi' : i < xs.length := (hv [] s.heap).length ▸ hi
    have hl' : s.heap.IsList a xs.toArray := let ⟨o, e, y⟩ := hl; ⟨o, r.1.keep _ _ e, y⟩
    refine wpAny_pyNext_list_item hJ hl' (x := xs[i]) (by simp [hi']) fun h' hit hs => ?_
    obtain ⟨y, hy, hv'⟩ := (hv ρ' h').get (i := i) (u := vs.getD i .none) (by rw [List.getD_eq_getElem?_getD, List.getElem?_eq_getElem hi]; rfl)
    have : y = xs[i] := by rw [List.getElem?_eq_getElem hi'] at hy; exact (Option.some.inj hy).symm
    subst this
    exact q _ h' s.toks hv' hit (.of_sameBut hs)
  done := fun fx ρ' σ s A R E hh hC hp r hJ q => by
    have hl' : s.heap.IsList a xs.toArray := let ⟨o, e, y⟩ := hl; ⟨o, r.1.keep _ _ e, y⟩
    refine wpAny_pyNext_list_end hh hJ hl' (by simp [(hv [] s.heap).length]) fun h' hx => q h' s.toks (.of_extBut hx)
  self := fun i s A R E hJ h => wpAny_pyIter_listiter hJ h
  keep := fun i h h' hJ k _ => let ⟨o, e, r⟩ := hJ; ⟨o, k o e, r⟩
  at_ := fun i h ⟨o, e, e2, e3⟩ => ⟨o, e, notFix_of e2 (by decide)⟩

end
end Mine
namespace Mine
open PySem PySem.W PyProof.Rows PySem.SeqAt

section
variable {c : Cx} {d k : Nat} {fx : Fx} {ρ ρ' ρ'' : List Addr} {σ σ' : St} {h h' h'' : Heap} {s s' s₁ : Shared} {A : Around} {Q : V → St → Prop} {X : Fl → St → Prop}
  {loc loc' : List (Str × V)} {hp hp' : List O}

theorem str_eq_of {x : Str} {l : List Nat} (e : x.cps.toList = l) : x = ⟨l.toArray⟩ := by
  subst e; cases x; simp

theorem seqIndex_of {k : Int} {n : Nat} (h0 : 0 ≤ k) (h1 : k < n) : seqIndex? k n = some k.toNat := by
  unfold seqIndex?
  have h2 : ¬ k < 0 := by omega
  simp only [h2, if_false, h0, h1, decide_true, Bool.and_self, if_true]
theorem EV.sub {value slice : Expr} {pos : Pos} (h : EV c d fx (eval value fx.env) σ (fun v σ₁ => EV c d fx (eval slice fx.env) σ₁ (fun u σ₂ => OV2 c d fx (fun o i => subscriptTail value slice o i) v u σ₂ Q))) :
    EV c d fx (eval (.Subscript value slice pos) fx.env) σ Q := fun ρ s A R r => by
  refine Subscript_ (wpAny_mono (h ρ s A R r) ?_ fun _ _ e => e)
  rintro x s₁ ⟨ρ₁, v, σ₁, p₁, e₁, r₁, v₁, h₁⟩
  refine wpAny_mono (h₁ ρ₁ s₁ A R r₁) ?_ fun _ _ e => e
  rintro y s₂ ⟨ρ₂, u, σ₂, p₂, e₂, r₂, v₂, h₂⟩
  exact wpAny_mono (h₂ ρ₂ s₂ A x y R r₂ (v₁.mono p₂ (r₁.1.immKeep e₂.keep)) v₂) (fun _ _ z => (z.trans p₂ e₂ r₂).trans p₁ e₁ r₁) fun _ _ e => e
theorem HRel.list (r : HRel c ρ hp h) {i : Nat} {vs : List V} (e : hp[i]? = some (.list vs)) : ∃ a xs n, ρ[i]? = some a ∧ h.get? a = some (listObj (List.toArray xs) n) ∧ VRs ρ h vs xs ∧ h.IsList a xs.toArray := by
  obtain ⟨a, x, h1, h2, xs, n, rfl, h3⟩ := r.at e
  exact ⟨a, xs, n, h1, h2, h3, _, h2, rfl, n, rfl⟩
noncomputable def SubOk (slice : Expr) : Prop := ∀ o i : Value, ∃ ops, subscripted slice false o i = operate ops (getItem o i)
theorem OV2.item {value slice : Expr} {l : Nat} {vs : List V} {k : Int} {v : V} (ho : σ.hp[l]? = some (.list vs)) (h0 : 0 ≤ k) (hv : vs[k.toNat]? = some v) (hb : vs.length < 2 ^ 62) (q : Q v σ) (hs : SubOk slice := by intro _ _; exact ⟨_, rfl⟩) :
    OV2 c d fx (fun o i => subscriptTail value slice o i) (.ref l) (.int k) σ Q := fun ρ s A x y R r vx vy => by
  cases vx using VR.refC with
  | ref ha =>
    cases vy using VR.intC with
    | int t =>
      rename_i b
      obtain ⟨a, xs, n, h1, h2, h3, h4⟩ := r.1.toHRel.list ho
      have eab : b = a := Option.some.inj (ha.symm.trans h1)
      subst eab
      obtain ⟨y, hy, hv'⟩ := h3.get hv
      obtain ⟨ops, hs⟩ := hs (.ref b) (.int k t)
      have hlt := (List.getElem?_eq_some_iff.mp hv).1
      exact tail_any h4.typeIs slot_list_getitem.lookup (wpAny_getItem_list h4 h0 (by omega) (by simpa using hy) (Post.same r rfl rfl rfl hv' q)) hs
theorem OV2.itemT {value slice : Expr} {vs : List V} {k : Int} {v : V} (h0 : 0 ≤ k) (hv : vs[k.toNat]? = some v) (hb : vs.length < 2 ^ 62) (q : Q v σ) (hs : SubOk slice := by intro _ _; exact ⟨_, rfl⟩) :
    OV2 c d fx (fun o i => subscriptTail value slice o i) (.tup vs) (.int k) σ Q := fun ρ s A x y R r vx vy => by
  cases vx using VR.tupC with
  | tup ha hx =>
    rename_i a xs n
    cases vy using VR.intC with
    | int t =>
      obtain ⟨y, hy, hv'⟩ := hx.get hv
      obtain ⟨ops, hs⟩ := hs (.ref a) (.int k t)
      have hlt := (List.getElem?_eq_some_iff.mp hy).1
      have hlt' := (List.getElem?_eq_some_iff.mp hv).1
      have ht : IsTup s.heap a xs.toArray := ⟨_, ha, rfl, n, rfl⟩
      refine tail_any ht.typeIs slot_tuple_getitem.lookup (getItem_tuple (j := k.toNat) ht (by omega) (by omega) ?_ (by simpa using hy) (Post.same r rfl rfl rfl hv' q)) hs
      have : (xs.toArray.size : Nat) = xs.length := by simp
      rw [this, seqIndex_of h0 (by omega)]
theorem OV2.itemS {value slice : Expr} {l : List Nat} {k : Int} {n : Nat} (h0 : 0 ≤ k) (hv : l[k.toNat]? = some n) (hb : l.length < 2 ^ 62) (q : Q (.str [n]) σ) (hs : SubOk slice := by intro _ _; exact ⟨_, rfl⟩) :
    OV2 c d fx (fun o i => subscriptTail value slice o i) (.str l) (.int k) σ Q := fun ρ s A x y R r vx vy => by
  cases vx using VR.strC with
  | str t e =>
    rename_i x
    cases vy using VR.intC with
    | int u =>
      obtain ⟨ops, hs⟩ := hs (.str x t) (.int k u)
      have hlt := (List.getElem?_eq_some_iff.mp hv).1
      have hxl : x.length = l.length := by show x.cps.size = _; rw [← e]; simp
      have hx2 : x.cps[k.toNat]? = some n := by rw [← Array.getElem?_toList, e]; exact hv
      refine tail_any (T := "str") (typeIs_str s x t) F.slot_str_getitem.lookup (P.getItem_str (c := n) ?_ ?_ (Post.same r rfl rfl rfl (.str _ (by simp)) q)) hs
      · simp only [Bool.or_eq_false_iff, decide_eq_false_iff_not]; omega
      · rw [seqIndex_of h0 (by omega)]
        exact hx2

end
end Mine
namespace Mine
open PySem PySem.W PyProof.Rows PySem.SeqAt

section
variable {c : Cx} {d k : Nat} {fx : Fx} {ρ ρ' ρ'' : List Addr} {σ σ' : St} {h h' h'' : Heap} {s s' s₁ : Shared} {A : Around} {Q : V → St → Prop} {X : Fl → St → Prop}
  {loc loc' : List (Str × V)} {hp hp' : List O}

theorem OV2.fdiv_int {a b : Int} (hb : b ≠ 0) (hp : Builtin.divisionGoesByPylong a b = false) (q : Q (.int (a.fdiv b)) σ) : OV2 c d fx (binaryOp .FloorDiv) (.int a) (.int b) σ Q := fun ρ s A x y _ r vx vy => by
  cases vx using VR.intC; cases vy using VR.intC; exact PyProof.Rows.floordiv_int hb (Post.same r rfl rfl rfl (.int _ _) q) (.inl hp)
theorem OV2.ifdiv_int {a b : Int} (hb : b ≠ 0) (hp : Builtin.divisionGoesByPylong a b = false) (q : Q (.int (a.fdiv b)) σ) : OV2 c d fx (inplaceOp .FloorDiv) (.int a) (.int b) σ Q := fun ρ s A x y _ r vx vy => by
  cases vx using VR.intC; cases vy using VR.intC; exact PyProof.Rows.ifloordiv_int hb (Post.same r rfl rfl rfl (.int _ _) q) (.inl hp)
theorem OV2.pow_int {a n : Int} (hn : 0 ≤ n) (hn2 : n ≤ 1000000) (ha : a.natAbs < 2 ^ 64) (q : Q (.int (a ^ n.toNat)) σ) : OV2 c d fx (binaryOp .Pow) (.int a) (.int n) σ Q := fun ρ s A x y _ r vx vy => by
  cases vx using VR.intC; cases vy using VR.intC; exact PyProof.Rows.pow_int_small hn hn2 ha (Post.same r rfl rfl rfl (.int _ _) q)
theorem OVs.abs {a : Int} (q : Q (.int (if a < 0 then -a else a)) σ) : OVs c d fx (fun xs => PySem.call (.builtin "abs") xs) [.int a] σ Q := fun ρ s A xs _ r va => by
  cases va using VRs.consC with
  | cons v1 v2 => cases v1 using VR.intC; cases v2 using VRs.nilC; exact call_abs_int fun u tk => Post.same r rfl rfl rfl (.int _ _) q
theorem OVs.len_list {i : Nat} {vs : List V} (ho : σ.hp[i]? = some (.list vs)) (hl : vs.length < 2 ^ 62) (q : Q (.int vs.length) σ) : OVs c d fx (fun xs => PySem.call (.builtin "len") xs) [.ref i] σ Q := fun ρ s A xs _ r va => by
  cases va using VRs.consC with
  | cons v1 v2 =>
    cases v2 using VRs.nilC
    cases v1 using VR.refC with
    | ref ha =>
      rename_i b
      obtain ⟨a, ys, n, h1, h2, h3, h4⟩ := r.1.toHRel.list ho
      have eab : b = a := Option.some.inj (ha.symm.trans h1)
      subst eab
      have hx : ys.toArray.size = vs.length := by simp [h3.length]
      refine PyProof.Rows.len_list h4 (by rw [hx]; omega) ?_
      rw [hx]; exact Post.same r rfl rfl rfl (.int _ _) q

noncomputable def OT (c : Cx) (d : Nat) (fx : Fx) (v : V) (σ : St) (Q : Bool → St → Prop) : Prop := OU1 c d fx (fun x => truthy x) v σ Q
theorem PostU.same {α : Type} {Q : α → St → Prop} {x : α} (r : RelS c fx ρ σ s) (hs : s'.heap = s.heap) (hg : s'.gens = s.gens) (ho : s'.os = s.os) (q : Q x σ) : PostU c fx ρ s Q x s' :=
  ⟨ρ, σ, List.prefix_refl _, by rw [hs]; exact .refl _ _ _, by unfold RelS at r ⊢; rw [hs, hg, ho]; exact r, q⟩
theorem OT.bool {b : Bool} {Q : Bool → St → Prop} (q : Q b σ) : OT c d fx (.bool b) σ Q := fun ρ s A x _ r vx => by cases vx using VR.boolC; exact wpAny_truthy_bool (PostU.same r rfl rfl rfl q)
theorem TV.plain {e : Expr} {Q : Bool → St → Prop} (h : EV c d fx (eval e fx.env) σ (fun v σ₁ => OT c d fx v σ₁ Q)) (he : isTrue e fx.env (eval e fx.env) = (do let v ← eval e fx.env; standAt e.pos; holding [v] (truthy v)) := by rfl) : TV c d fx e σ Q := fun ρ s A R r => by
  refine isTrue_plain (wpAny_mono (h ρ s A R r) ?_ fun _ _ e => e) he
  rintro x s₁ ⟨ρ₁, v, σ₁, p₁, e₁, r₁, v₁, h₁⟩
  exact wpAny_mono (h₁ ρ₁ s₁ A x R r₁ v₁) (fun _ _ z => z.trans p₁ e₁ r₁) fun _ _ e => e
theorem TV.not_ {e : Expr} {pos : Pos} {Q : Bool → St → Prop} (h : TV c d fx e σ (fun b σ₁ => Q (!b) σ₁)) : TV c d fx (.UnaryOp .Not e pos) σ Q := fun ρ s A R r =>
  isTrue_not (wpAny_mono (h ρ s A R r) (fun b s' ⟨ρ', σ', p, e, r, q⟩ => ⟨ρ', σ', p, e, r, q⟩) fun _ _ e => e)
theorem TV.and1 {e : Expr} {rest : List Expr} {pos : Pos} {Q : Bool → St → Prop} (h : TV c d fx e σ (fun b σ₁ => if b then TV c d fx (.BoolOp .And rest pos) σ₁ Q else Q false σ₁)) : TV c d fx (.BoolOp .And (e :: rest) pos) σ Q := fun ρ s A R r => by
  refine isTrue_and (wpAny_mono (h ρ s A R r) ?_ fun _ _ e => e)
  rintro b s₁ ⟨ρ₁, σ₁, p₁, e₁, r₁, h₁⟩
  cases b with
  | true => exact wpAny_mono (h₁ ρ₁ s₁ A R r₁) (fun _ _ z => z.trans p₁ e₁ r₁) fun _ _ e => e
  | false => exact ⟨ρ₁, σ₁, p₁, e₁, r₁, h₁⟩
theorem TV.and0 {pos : Pos} {Q : Bool → St → Prop} (h : Q true σ) : TV c d fx (.BoolOp .And [] pos) σ Q := fun ρ s A R r => isTrue_and_nil (PostU.same r rfl rfl rfl h)
theorem EV.ifexp {test body orelse : Expr} {pos : Pos} (h : TV c d fx test σ (fun b σ₁ => if b then EV c d fx (eval body fx.env) σ₁ Q else EV c d fx (eval orelse fx.env) σ₁ Q)) : EV c d fx (eval (.IfExp test body orelse pos) fx.env) σ Q := fun ρ s A R r => by
  refine IfExp_ (wpAny_mono (h ρ s A R r) ?_ fun _ _ e => e)
  rintro b s₁ ⟨ρ₁, σ₁, p₁, e₁, r₁, h₁⟩
  cases b with
  | true => exact wpAny_mono (h₁ ρ₁ s₁ A R r₁) (fun _ _ z => z.trans p₁ e₁ r₁) fun _ _ e => e
  | false => exact wpAny_mono (h₁ ρ₁ s₁ A R r₁) (fun _ _ z => z.trans p₁ e₁ r₁) fun _ _ e => e
theorem setItem_raw {l : Addr} {xs : List Value} {n : Nat} {k : Int} {t : Tok} {v : Value} {R : Unit → Shared → Prop} {E : Value → Shared → Prop} (ho : s.heap.get? l = some (listObj xs.toArray n)) (h0 : 0 ≤ k) (hfit : k < 2 ^ 63) (hn : k < xs.length)
    (q : R () { s with heap := s.heap.update l (Obj.mapSeq (·.setIfInBounds k.toNat v)) }) : wpAny c.M A (setItem (.ref l) (.int k t) v) R E s := by
  have hl : s.heap.IsList l xs.toArray := ⟨_, ho, rfl, n, rfl⟩
  unfold setItem
  try with_reducible refine wpAny_holding ?_
  first | refine wpAny_bind (wpAny_pure ?_) | skip
  refine wpAny_bind (wpAny_sequenceKey hl.typeIs (by decide) ?_)
  refine wpAny_bind (wpAny_callSpecial?_slot (name := Str.ofString "__setitem__") hl.typeIs slot_list_setitem
    (wpAny_call_entry slot_list_setitem hl.typeIs entry_list_setitem ?_ (args_list_setitem _ _ _)))
  show wpAny _ _ (Builtin.List.listSubscript? (.int k t) >>= _) _ _ s
  refine wpAny_bind (wpAny_listSubscript_int (fitsIndex_of h0 hfit) ?_)
  clear hfit
  obtain ⟨j, rfl⟩ := Int.eq_ofNat_of_zero_le h0
  have hj : j < xs.toArray.size := by simp; omega
  have hx' : xs.toArray[j]? = some xs.toArray[j] := Array.getElem?_eq_getElem hj
  show wpAny _ _ ((seqItemAt l j >>= fun r => pure (r.map (j, ·))) >>= _) _ _ s
  refine wpAny_bind (wpAny_bind (wpAny_seqItemAt ho rfl (wpAny_pure ?_)))
  rw [hx']
  show wpAny _ _ (setSeqItemAt l j v >>= _) _ _ s
  refine wpAny_bind (wpAny_setSeqItemAt ho rfl ?_)
  first
    | exact wpAny_bind (wpAny_pure (wpAny_pure ⟨.none, rfl, wpAny_pure q⟩))
    | exact wpAny_pure ⟨.none, rfl, wpAny_pure q⟩
theorem setItemV {x : Addr} {l : Nat} {vs : List V} {k : Int} {t : Tok} {v : V} {u : Value} {R : Unit → Shared → Prop} (r : RelS c fx ρ ⟨loc, hp⟩ s) (hx : ρ[l]? = some x) (ho : hp[l]? = some (.list vs)) (h0 : 0 ≤ k) (hn : k < vs.length) (hb : vs.length < 2 ^ 62) (hv : VR ρ s.heap v u)
    (q : ∀ s', Ext fx ρ s.heap ρ s'.heap → RelS c fx ρ ⟨loc, hp.set l (.list (vs.set k.toNat v))⟩ s' → R () s') : wpAny c.M A (setItem (.ref x) (.int k t) u) R noE s := by
  obtain ⟨a, xs, n, h1, h2, h3, h4⟩ := r.1.toHRel.list ho
  have eab : x = a := Option.some.inj (hx.symm.trans h1)
  subst eab
  refine setItem_raw h2 h0 (by omega) (by rw [← h3.length]; exact hn) ?_
  have hs : Keep [x] s.heap (s.heap.update x (Obj.mapSeq (·.setIfInBounds k.toNat u))) := .of_sameBut (Heap.SameBut.update ..)
  have hg : (s.heap.update x (Obj.mapSeq (·.setIfInBounds k.toNat u))).get? x = some (listObj (xs.set k.toNat u).toArray n) := by
    rw [Heap.get?_update_self _ h2 rfl]
    show some (listObj (xs.toArray.setIfInBounds k.toNat u) (if (xs.toArray.setIfInBounds k.toNat u).size == xs.toArray.size then n else n + 1)) = _
    simp
  have kk : ImmKeep s.heap (s.heap.update x (Obj.mapSeq (·.setIfInBounds k.toNat u))) := r.1.toHRel.immKeep (hs.sub fun b m => by rw [List.mem_singleton] at m; subst m; exact mem_of_get? hx)
  exact q _ (.upd hx hs) ⟨r.1.upd hx hs hg ⟨_, n, rfl, VRs.set (h3.mono (List.prefix_refl _) kk) (hv.mono (List.prefix_refl _) kk)⟩, r.2⟩
theorem XV.setsub {o i : Expr} {pos' : Pos} {value : Expr} {pos : Pos}
    (h : EV c d fx (eval value fx.env) σ (fun v σ₁ => EV c d fx (eval o fx.env) σ₁ (fun u σ₂ => EV c d fx (eval i fx.env) σ₂ (fun w σ₃ => ∃ l vs k, u = .ref l ∧ w = .int k ∧ σ₃.hp[l]? = some (.list vs) ∧ 0 ≤ k ∧ k < vs.length ∧ vs.length < 2 ^ 62 ∧
      X .next ⟨σ₃.loc, σ₃.hp.set l (.list (vs.set k.toNat v))⟩))))
    (hs : swapsWith value (some (.Subscript o i pos')) pos.line fx.env = pure false := by rfl) : XV c d fx (exec (.Assign [.Subscript o i pos'] value pos) fx.env) σ X := fun ρ s A R r => by
  refine wpAny_Assign_Subscript (wpAny_mono (h ρ s A R r) ?_ fun _ _ e => e) hs
  rintro x s₁ ⟨ρ₁, v, σ₁, p₁, e₁, r₁, v₁, h₁⟩
  refine wpAny_mono (h₁ ρ₁ s₁ A R r₁) ?_ fun _ _ e => e
  rintro y s₂ ⟨ρ₂, u, σ₂, p₂, e₂, r₂, v₂, h₂⟩
  refine wpAny_mono (h₂ ρ₂ s₂ A R r₂) ?_ fun _ _ e => e
  rintro z s₃ ⟨ρ₃, _, ⟨loc₃, hp₃⟩, p₃, e₃, r₃, v₃, l, vs, k, rfl, rfl, g1, g2, g3, g4, q⟩
  cases v₃ using VR.intC
  cases v₂ using VR.refC with
  | ref hx => exact setItemV r₃ (pre_get p₃ hx) g1 g2 g3 g4 ((v₁.mono p₂ (r₁.1.immKeep e₂.keep)).mono p₃ (r₂.1.immKeep e₃.keep)) fun s' e' r' => ⟨ρ₃, .next, _, ((e₁.trans e₂ r₁.1.hasL).trans e₃ r₂.1.hasL).trans e' r₃.1.hasL, r', .next, q⟩
noncomputable def UN (c : Cx) (d : Nat) (fx : Fx) : List Expr → List V → St → (St → Prop) → Prop
  | [], [], σ, Q => Q σ
  | e :: es, v :: vs, σ, Q => OU1 c d fx (fun y => assign e fx.env y) v σ (fun _ σ' => UN c d fx es vs σ' Q)
  | _, _, _, _ => False
theorem UN.run {Q : St → Prop} {R : Unit → Shared → Prop} (hroom : Room d A) : ∀ {es : List Expr} {vs : List V} {xs : List Value} {σ : St} {ρ : List Addr} {s : Shared}, RelS c fx ρ σ s → VRs ρ s.heap vs xs → UN c d fx es vs σ Q →
    (∀ ρ' σ' s', ρ <+: ρ' → Ext fx ρ s.heap ρ' s'.heap → RelS c fx ρ' σ' s' → Q σ' → R () s') → wpAny c.M A (assignInOrder (es.map fun e => assign e fx.env) xs) R noE s
  | [], _, _, σ, ρ, s, r, .nil, q, k => wpAny_pure (k ρ σ s (List.prefix_refl _) (.refl _ _ _) r q)
  | [], _, _, σ, ρ, s, r, .cons _ _, q, k => q.elim
  | e :: es, _, _, σ, ρ, s, r, .nil, q, k => q.elim
  | e :: es, _, _, σ, ρ, s, r, .cons v1 v2, q, k => by
    rw [List.map_cons, assignInOrder]
    refine wpAny_bind (wpAny_holding (wpAny_mono (q ρ s A _ hroom r v1) ?_ fun _ _ z => z))
    rintro _ s₁ ⟨ρ₁, σ₁, p₁, e₁, r₁, h₁⟩
    exact UN.run hroom r₁ (v2.mono p₁ (r.1.immKeep e₁.keep)) h₁ fun ρ' σ' s' p e r' q => k ρ' σ' s' (p₁.trans p) (e₁.trans e r₁.1.hasL) r' q
theorem assignEach_plain {env : Env} : ∀ {es : List Expr}, plainArgs es = true → assignEach es env = es.map fun e => (false, assign e env)
  | [], _ => rfl
  | e :: r, q => by
    cases e <;> first | (simp only [plainArgs] at q; cases q) | (simp only [plainArgs] at q; simp only [assignEach, List.map_cons, assignEach_plain q])
theorem XV.assignT {elts : List Expr} {x1 : Nat} {tpos : Pos} {value : Expr} {pos : Pos} (h : EV c d fx (eval value fx.env) σ (fun v σ₁ => OU1 c d fx (fun y => PySem.assign (.Tuple elts x1 tpos) fx.env y) v σ₁ (fun _ σ₂ => X .next σ₂)))
    (hs : swapsWithSole [.Tuple elts x1 tpos] value pos.line fx.env = pure false := by rfl) (hw : swappedStores [.Tuple elts x1 tpos] value fx.env = pure none := by rfl) :
    XV c d fx (exec (.Assign [.Tuple elts x1 tpos] value pos) fx.env) σ X := fun ρ s A R r => by
  refine Assign_Tuple (wpAny_mono (h ρ s A R r) ?_ fun _ _ e => e) hs hw
  rintro x s₁ ⟨ρ₁, v, σ₁, p₁, e₁, r₁, v₁, h₁⟩
  refine wpAny_mono (h₁ ρ₁ s₁ A x R r₁ v₁) ?_ fun _ _ z => z
  rintro _ s₂ ⟨ρ₂, σ₂, p₂, e₂, r₂, q⟩
  exact ⟨ρ₂, .next, σ₂, e₁.trans e₂ r₁.1.hasL, r₂, .next, q⟩

mutual
inductive Like (hp : List O) : Nat → V → V → Prop
  | none {n} : Like hp n .none .none
  | bool {n b} : Like hp n (.bool b) (.bool b)
  | int {n i} : Like hp n (.int i) (.int i)
  | str {n l} : Like hp n (.str l) (.str l)
  | ref {n i} : Like hp n (.ref i) (.ref i)
  | tup {n vs us} : Likes hp n vs us → Like hp (n + 1) (.tup vs) (.tup us)
  | list {n i j vs us} : hp[i]? = some (.list vs) → hp[j]? = some (.list us) → Likes hp n vs us → Like hp (n + 1) (.ref i) (.ref j)
inductive Likes (hp : List O) : Nat → List V → List V → Prop
  | nil {n} : Likes hp n [] []
  | cons {n v u vs us} : Like hp n v u → Likes hp n vs us → Likes hp n (v :: vs) (u :: us)
end
theorem Likes.length {n : Nat} : ∀ {vs us : List V}, Likes hp n vs us → vs.length = us.length
  | _, _, .nil => rfl
  | _, _, .cons _ r => congrArg (· + 1) r.length
theorem all_true (n : Nat) : (List.range n).all (fun _ => true) = true := by simp
mutual
theorem Like.eqAt (r : HRel c ρ hp s.heap) {n : Nat} {v u : V} (l : Like hp n v u) : ∀ (x y : Value) (A : Around), A.units + n < cLine → VR ρ s.heap v x → VR ρ s.heap u y → EqAt A s x y true := match l with
  | .none => fun x y A _ vx vy => by cases vx using VR.noneC; cases vy using VR.noneC; exact EqAt.same _
  | .bool => fun x y A _ vx vy => by cases vx using VR.boolC; cases vy using VR.boolC; exact EqAt.same _
  | .int (i := i) => fun x y A _ vx vy => by
    cases vx using VR.intC with
    | int t => cases vy using VR.intC with
      | int t' => have := EqAt.int_int (A := A) (s := s) i t i t'; rw [beq_self_eq_true] at this; exact this
  | .str => fun x y A _ vx vy => by
    cases vx using VR.strC with
    | str t e => cases vy using VR.strC with
      | str t' e' =>
        rename_i x y
        have hxy : x = y := (str_eq_of e).trans (str_eq_of e').symm
        subst hxy
        have := EqAt.str_str (A := A) (s := s) x t x t'; rw [beq_self_eq_true] at this; exact this
  | .ref => fun x y A _ vx vy => by
    cases vx using VR.refC with
    | ref e => cases vy using VR.refC with
      | ref e' => have := Option.some.inj (e.symm.trans e'); subst this; exact EqAt.same _
  | .tup l => fun x y A hu vx vy => by
    cases vx using VR.tupC with
    | tup ha hx => cases vy using VR.tupC with
      | tup hb hy =>
        rename_i a xs m b ys m'
        by_cases hab : a = b
        · subst hab; exact EqAt.same _
        · have hl : xs.toArray.size = ys.toArray.size := by simp [← hx.length, ← hy.length, l.length]
          have := RcAt.tuples (A := A) (s := s) (items := xs.toArray) (items2 := ys.toArray) (e := fun _ => true) ⟨_, ha, rfl, m, rfl⟩ ⟨_, hb, rfl, m', rfl⟩ (by omega)
            (fun j h1 h2 => by
              have := Likes.eqAt r l _ _ A.in1 (by simp only [Around.in1_units]; omega) hx hy j (by simpa using h1) (by simpa using h2)
              simpa using this)
          rw [all_true, hl, beq_self_eq_true, Bool.and_self] at this
          exact EqAt.of_refs hab this
  | .list hi hj l => fun x y A hu vx vy => by
    cases vx using VR.refC with
    | ref e => cases vy using VR.refC with
      | ref e' =>
        rename_i a b
        by_cases hab : a = b
        · subst hab; exact EqAt.same _
        · obtain ⟨a', xs, m, g1, g2, g3, g4⟩ := r.list hi
          obtain ⟨b', ys, m', k1, k2, k3, k4⟩ := r.list hj
          have ea := Option.some.inj (e.symm.trans g1)
          have eb := Option.some.inj (e'.symm.trans k1)
          subst ea eb
          have hl : xs.toArray.size = ys.toArray.size := by simp [← g3.length, ← k3.length, l.length]
          have := RcAt.lists (A := A) (s := s) (e := fun _ => true) g4 k4 hl (by omega)
            (fun j h1 h2 => by
              have := Likes.eqAt r l _ _ A.in1 (by simp only [Around.in1_units]; omega) g3 k3 j (by simpa using h1) (by simpa using h2)
              simpa using this)
          rw [all_true] at this
          exact EqAt.of_refs hab this
theorem Likes.eqAt (r : HRel c ρ hp s.heap) {n : Nat} {vs us : List V} (l : Likes hp n vs us) : ∀ (xs ys : List Value) (A : Around), A.units + n < cLine → VRs ρ s.heap vs xs → VRs ρ s.heap us ys → ∀ (j : Nat) (h1 : j < xs.length) (h2 : j < ys.length), EqAt A s xs[j] ys[j] true := match l with
  | .nil => fun xs ys A _ vx _ j h1 _ => by cases vx using VRs.nilC; cases h1
  | .cons l ls => fun xs ys A hu vx vy j h1 h2 => by
    cases vx using VRs.consC with
    | cons v1 v2 => cases vy using VRs.consC with
      | cons u1 u2 =>
        cases j with
        | zero => exact Like.eqAt r l _ _ A hu v1 u1
        | succ j => exact Likes.eqAt r ls _ _ A hu v2 u2 j (by simpa using h1) (by simpa using h2)
end
end
end Mine
namespace Mine
open PySem PySem.W PyProof.Rows PySem.SeqAt

section
variable {c : Cx} {d k : Nat} {fx : Fx} {ρ ρ' ρ'' : List Addr} {σ σ' : St} {h h' h'' : Heap} {s s' s₁ : Shared} {A : Around} {Q : V → St → Prop} {X : Fl → St → Prop}
  {loc loc' : List (Str × V)} {hp hp' : List O}

noncomputable abbrev MethForm (fx : Fx) (o : Expr) (name : Str) (apos : Pos) (args : List Expr) (pos : Pos) (pl : Sem Bool) : Prop := eval (.Call (.Attribute o name apos) args [] pos) fx.env = (do
      let ov ← eval o fx.env
      standAt apos.atName
      let (f, first) ← holding [ov] (getMethod ov name pl)
      callWith pos f first (backTo pos (starEach args fx.env)) [])
theorem EV.methB {o : Expr} {name : Str} {apos pos : Pos} {args : List Expr} {pl : Sem Bool} {id : String} {P : V → St → Prop}
    (h : EV c d fx (eval o fx.env) σ (fun u σ₁ => P u σ₁ ∧ EVs c d fx (spliced (backTo pos (starEach args fx.env))) σ₁ (fun vs σ₂ => OVs c d fx (fun xs => PySem.call (.builtin id) xs) (u :: vs) σ₂ Q)))
    (hm : ∀ u σ₁ ρ s x (R : Value × List Value → Shared → Prop) A, P u σ₁ → RelS c fx ρ σ₁ s → VR ρ s.heap u x → R (.builtin id, [x]) s → wpAny c.M A (getMethod x name pl) R noE s)
    (hpl : plainArgs args = true := by rfl) (he : MethForm fx o name apos args pos pl := by rfl) :
    EV c d fx (eval (.Call (.Attribute o name apos) args [] pos) fx.env) σ Q := fun ρ s A R r => by
  refine MethodCall_ (wpAny_mono (h ρ s A R r) ?_ fun _ _ e => e) he
  rintro x s₁ ⟨ρ₁, u, σ₁, p₁, e₁, r₁, v₁, hP, h₁⟩
  refine hm u σ₁ ρ₁ s₁ x _ A hP r₁ v₁ ?_
  refine wpAny_mono (callWithV (P := fun _ => True) R r₁ hpl (fun h _ => ⟨.machine, .inr (.inl rfl), Looks.of_pure rfl⟩) h₁ (fun _ _ _ _ _ _ _ _ => trivial) fun ρ' s' vs xs σ' p e r' va hf => ?_) (fun _ _ z => z.trans p₁ e₁ r₁) fun _ _ z => z
  exact hf ρ' s' A (x :: xs) R r' (.cons (v₁.mono p (r₁.1.immKeep e.keep)) va)
theorem EV.append {o : Expr} {apos pos : Pos} {args : List Expr} {pl : Sem Bool}
    (h : EV c d fx (eval o fx.env) σ (fun u σ₁ => (∃ i vs, u = .ref i ∧ σ₁.hp[i]? = some (.list vs)) ∧ EVs c d fx (spliced (backTo pos (starEach args fx.env))) σ₁ (fun vs σ₂ => OVs c d fx (fun xs => PySem.call (.builtin "list.append") xs) (u :: vs) σ₂ Q)))
    (hpl : plainArgs args = true := by rfl) (he : MethForm fx o "append" apos args pos pl := by rfl) : EV c d fx (eval (.Call (.Attribute o "append" apos) args [] pos) fx.env) σ Q :=
  EV.methB (P := fun u σ₁ => ∃ i vs, u = .ref i ∧ σ₁.hp[i]? = some (.list vs)) h (fun u σ₁ ρ s x R A ⟨i, vs, e, ho⟩ r hv q => by
    subst e
    cases hv using VR.refC with
    | ref ha =>
      rename_i b
      obtain ⟨a, ys, n, h1, h2, h3, h4⟩ := r.1.toHRel.list ho
      have eab : b = a := Option.some.inj (ha.symm.trans h1)
      subst eab
      exact Calls.getMethod_list_append h2 rfl rfl q) hpl he
theorem OVs.append {i : Nat} {vs : List V} {v : V} (ho : σ.hp[i]? = some (.list vs)) (hl : vs.length < 2 ^ 20) (q : Q .none ⟨σ.loc, σ.hp.set i (.list (vs ++ [v]))⟩) : OVs c d fx (fun xs => PySem.call (.builtin "list.append") xs) [.ref i, v] σ Q := fun ρ s A xs R r va => by
  obtain ⟨loc, hp⟩ := σ
  cases va using VRs.consC with
  | cons v1 v2 =>
    cases v2 using VRs.consC with
    | cons v2 v3 =>
      cases v3 using VRs.nilC
      cases v1 using VR.refC with
      | ref ha =>
        rename_i y b
        obtain ⟨a, ys, n, h1, h2, h3, h4⟩ := r.1.toHRel.list ho
        have eab : b = a := Option.some.inj (ha.symm.trans h1)
        subst eab
        have hsz : ys.toArray.size ≤ sizeLine := by rw [sizeLine_eq]; simp [← h3.length]; omega
        refine call_meets F.slot_list_append h4.typeIs F.entry_list_append (F.args_list_append_2 _ _) (AutoListH.list_append_list_val_0 b ys.toArray n y hsz) ⟨h2, ?_⟩
        have hs : Keep [b] s.heap (s.heap.update b (Obj.mapSeq fun x => x.push y)) := .of_sameBut (Heap.SameBut.update ..)
        have hg : (s.heap.update b (Obj.mapSeq fun x => x.push y)).get? b = some (listObj (ys ++ [y]).toArray (n + 1)) := by
          rw [Heap.get?_update_self _ h2 rfl]
          show some (listObj (ys.toArray.push y) (if (ys.toArray.push y).size == ys.toArray.size then n else n + 1)) = _
          simp
        have kk : ImmKeep s.heap (s.heap.update b (Obj.mapSeq fun x => x.push y)) := r.1.toHRel.immKeep (hs.sub fun b m => by rw [List.mem_singleton] at m; subst m; exact mem_of_get? ha)
        exact ⟨ρ, .none, _, List.prefix_refl _, .upd ha hs, ⟨r.1.upd (o := .list (vs ++ [v])) ha hs hg ⟨_, _, rfl, VRs.append (h3.mono (List.prefix_refl _) kk) (.cons (v2.mono (List.prefix_refl _) kk) .nil)⟩, r.2⟩, .none, q⟩
end
end Mine
namespace Mine
open PySem PySem.W PyProof.Rows PySem.SeqAt

section
variable {c : Cx} {d k : Nat} {fx : Fx} {ρ ρ' ρ'' : List Addr} {σ σ' : St} {h h' h'' : Heap} {s s' s₁ : Shared} {A : Around} {Q : V → St → Prop} {X : Fl → St → Prop}
  {loc loc' : List (Str × V)} {hp hp' : List O}

end
end Mine
namespace Mine
open PySem PySem.W PyProof.Rows PySem.SeqAt

section
variable {c : Cx} {d k : Nat} {fx : Fx} {ρ ρ' ρ'' : List Addr} {σ σ' : St} {h h' h'' : Heap} {s s' s₁ : Shared} {A : Around} {Q : V → St → Prop} {X : Fl → St → Prop}
  {loc loc' : List (Str × V)} {hp hp' : List O}

noncomputable abbrev turnC (I : Nat → St → Prop) (n : Nat) (X : Fl → St → Prop) : Fl → St → Prop := fun f σ₂ => match f with
  | .next => ∃ m, m < n ∧ I m σ₂
  | .cont => ∃ m, m < n ∧ I m σ₂
  | .brk => X .next σ₂
  | .ret v => X (.ret v) σ₂
end
end Mine
namespace Mine
open PySem PySem.W PyProof.Rows PySem.SeqAt

noncomputable def cloV (cl : List (Str × Nat)) : List (Str × NameKind) → List (Str × Nat) → Option (List (Str × Nat))
  | [], acc => some acc
  | (n, k) :: r, acc => if k == .free then (match cl.lookup n with | some i => cloV cl r ((n, i) :: acc) | none => none) else cloV cl r acc
theorem closure_go {ρ : List Addr} {cl : List (Str × Nat)} {env : Env} (hc : ClR ρ cl env.cells) : ∀ (names : List (Str × NameKind)) {acc : List (Str × Nat)} {acc' : List (Str × Addr)} {cl' : List (Str × Nat)}, ClR ρ acc acc' → cloV cl names acc = some cl' →
    ∃ clos, (forIn names acc' (fun (x : Str × NameKind) cs => (do
      if x.2 == .free then do let a ← cellOf env x.1; pure (ForInStep.yield ((x.1, a) :: cs)) else pure (ForInStep.yield cs) : Sem (ForInStep (List (Str × Addr)))))) = (pure clos : Sem (List (Str × Addr))) ∧ ClR ρ cl' clos
  | [], acc, acc', cl', ha, e => by cases e; exact ⟨acc', rfl, ha⟩
  | (n, k) :: r, acc, acc', cl', ha, e => by
    rw [cloV] at e
    rw [List.forIn_cons]
    cases hk : k == .free with
    | true =>
      rw [hk] at e
      simp only [if_true] at e ⊢
      cases hl : cl.lookup n with
      | none => rw [hl] at e; cases e
      | some i =>
        rw [hl] at e
        obtain ⟨a, h1, h2⟩ := hc.look hl
        have : cellOf env n = pure a := by unfold cellOf; rw [h1]
        rw [this]
        obtain ⟨clos, h3, h4⟩ := closure_go hc r (acc' := (n, a) :: acc') (acc := (n, i) :: acc) ⟨rfl, h2, ha⟩ e
        exact ⟨clos, h3, h4⟩
    | false =>
      rw [hk] at e
      obtain ⟨clos, h3, h4⟩ := closure_go hc r ha e
      exact ⟨clos, h3, h4⟩
theorem closure_V {ρ : List Addr} {cl cl' : List (Str × Nat)} {env : Env} {scope : Scope} (hc : ClR ρ cl env.cells) (e : cloV cl scope.names [] = some cl') : ∃ clos, closureFor scope env = pure clos ∧ ClR ρ cl' clos := by
  obtain ⟨clos, h1, h2⟩ := closure_go hc scope.names (acc := []) (acc' := []) trivial e
  refine ⟨clos, ?_, h2⟩
  unfold closureFor
  show (forIn scope.names [] _ >>= fun cs => pure cs) = _
  rw [show (forIn scope.names ([] : List (Str × Addr)) _ : Sem _) = pure clos from h1]
  rfl

section
variable {M : Model} {A : Around} {E : Value → Shared → Prop} {s : Shared} {name qual : Str} {params : Arguments} {body : List Stmt} {scope : Scope} {env : Env} {c P : Addr} {ps : Array Value} {pos : Pos} {firstLine : Nat} {mg : Str → Option Value}
  {clos : List (Str × Addr)} {Q : Value → Shared → Prop}
end

section
variable {c : Cx} {d k : Nat} {fx : Fx} {ρ ρ' ρ'' : List Addr} {σ σ' : St} {h h' h'' : Heap} {s s' s₁ : Shared} {A : Around} {Q : V → St → Prop} {X : Fl → St → Prop}
  {loc loc' : List (Str × V)} {hp hp' : List O}

end
end Mine
namespace Mine
open PySem PySem.W PyProof.Rows PySem.SeqAt

section
variable {c : Cx} {d k : Nat} {fx : Fx} {ρ ρ' ρ'' : List Addr} {σ σ' : St} {h h' h'' : Heap} {s s' s₁ : Shared} {A : Around} {X : Fl → St → Prop}
  {loc loc' : List (Str × V)} {hp hp' : List O}

theorem TV.mono {e : Expr} {σ : St} {Q Q' : Bool → St → Prop} (h : TV c d fx e σ Q) (k : ∀ b σ, Q b σ → Q' b σ) : TV c d fx e σ Q' := fun ρ s A R r =>
  wpAny_mono (h ρ s A R r) (fun _ _ ⟨ρ', σ', p, e, r, q⟩ => ⟨ρ', σ', p, e, r, k _ _ q⟩) fun _ _ z => z
inductive IfI (A B : St → Prop) (b : Bool) (σ : St) : Prop
  | mk (t : b = true → A σ) (f : b = false → B σ) : IfI A B b σ
theorem XV.ifB {test : Expr} {body orelse : List Stmt} {pos : Pos} {σ : St} (h : TV c d fx test σ (IfI (fun σ₁ => XV c d fx (execs body fx.env) σ₁ X) (fun σ₁ => XV c d fx (execs orelse fx.env) σ₁ X))) :
    XV c d fx (exec (.If test body orelse pos) fx.env) σ X := XV.ifs (h.mono fun b σ₁ q => by
  obtain ⟨q1, q2⟩ := q
  cases b
  · exact q2 rfl
  · exact q1 rfl)
theorem XV.st2 {t : Sem Flow} {loc loc' : List (Str × V)} {hp hp' : List O} (e : loc = loc') (e' : hp = hp') (h : XV c d fx t ⟨loc', hp'⟩ X) : XV c d fx t ⟨loc, hp⟩ X := by subst e; subst e'; exact h
theorem XV.whileB {test : Expr} {body : List Stmt} {pos : Pos} {σ : St} (I : Nat → St → Prop) (n : Nat) (h0 : I n σ)
    (turn : ∀ n σ, I n σ → TV c d fx test σ (fun b σ₁ => (b = true → XV c d fx (execs body fx.env) σ₁ (turnC I n X)) ∧ (b = false → X .next σ₁))) : XV c d fx (exec (.While test body [] pos) fx.env) σ X :=
  XV.while_ I n h0 fun n σ hI => (turn n σ hI).mono fun b σ₁ q => by
    cases b
    · exact q.2 rfl
    · exact q.1 rfl
end
end Mine
namespace Mine
open PySem PySem.W PySem.Calls PyProof.Rows Builtin Builtin.ObjectAttr Builtin.Getset_descriptor
section
variable {prog : Program} {w : World} {A : Around} {E : Value → Shared → Prop} {s : Shared} {K : Frag} {x C : Addr} {ox : Obj} {od : Option Obj} {name : Str} {expr : Bool} {Q : Value → Shared → Prop}
structure ExcK (K : Frag) (C : Addr) : Prop where
  has : hasDictIn K C = true
  ga : findIn K (.ref C) "__getattribute__" = some (some (.builtin "BaseException.__getattribute__"))
  gat : findIn K (.ref C) "__getattr__" = some none
  sa : findIn K (.ref C) "__setattr__" = some (some (.builtin "object.__setattr__"))
  mro : (clsIn K C).map (fun cd => (cd.mro, cd.abstract, cd.hasDel)) = some ([.ref C, .type "Exception", .type "BaseException", .type "object"], false, false)
theorem ExcK.cls (Z : ExcK K C) : ∃ cd, clsIn K C = some cd ∧ cd.mro = [.ref C, .type "Exception", .type "BaseException", .type "object"] ∧ cd.abstract = false ∧ cd.hasDel = false ∧ cd.hasDict = true := by
  obtain ⟨cd, hc, hd⟩ := any_some Z.has
  have := Z.mro
  rw [hc] at this
  simp at this
  exact ⟨cd, hc, this.1, this.2.1, this.2.2, hd⟩
theorem ExcK.sub (Z : ExcK K C) {b : Value} (hb : [Value.ref C, .type "Exception", .type "BaseException", .type "object"].contains b = true) : mroIn K C b = some true := by
  obtain ⟨cd, hc, hm, _⟩ := Z.cls
  unfold mroIn
  rw [hc, Option.bind_some, hm, hb]; rfl
theorem exc_inst {M : Model} {h : Heap} (Z : ExcK K C) (X : K.In h) (I : InstAt h x ox C od) {b : Value} (hb : [Value.ref C, .type "Exception", .type "BaseException", .type "object"].contains b = true) : Looks M h (isInstance (.ref x) b) true :=
  I.type.andThen (looks_mroIn X (Z.sub hb))
theorem excGet_open (Z : ExcK K C) (X : K.In s.heap) (I : InstAt s.heap x ox C od)
    (h : wpAny (model prog w) A.in1 (Builtin.«object.__getattribute__» ⟨[.ref x, .str name s.toks], []⟩) (fun fin s' => ∃ v, fin = .done (.ret v) ∧ wpAny (model prog w) A (handedOut v) Q E s') (fun _ _ => False) { s with toks := s.toks + 1 }) :
    wpAny (model prog w) A (getAttr (.ref x) name expr) Q E s := by
  obtain ⟨hh, g, d, t, os⟩ := s
  have L0 := I.type (M := model prog w)
  have L1 := looks_findIn (M := model prog w) X Z.ga
  have L2 := looks_findIn (M := model prog w) X Z.gat
  unfold getAttr getAttrBy
  refine wpAny_bind (wpAny_mkText (wpAny_holding (wpAny_bind (L0.at (wpAny_bind (L1.at ?_))))))
  show wpAny _ _ (getAttrByItsOwn _ _ _ _ _ _) _ _ _
  unfold getAttrByItsOwn
  refine wpAny_bind (m := hookBefore _) ?_
  show wpAny _ _ (typeLookup (.ref C) "__getattr__") _ _ _
  refine L2.at ?_
  refine wpAny_bind (wpAny_attempt ?_)
  refine wpAny_holding ?_
  have hcg : callGetattribute (.ref x) (.str name t) (.builtin "BaseException.__getattribute__") expr = boundAndCalled (.builtin "BaseException.__getattribute__") (.ref x) (.str name t) := by
    unfold callGetattribute
    rw [if_neg (by cases expr <;> exact Bool.false_ne_true)]
  rw [hcg]
  unfold boundAndCalled
  rw [PySem.F.attr_Exception.ga.bind]
  refine wpAny_bind (wpAny_pure (wpAny_call ?_))
  have hk : builtinKind "BaseException.__getattribute__" = some .slot := by decide +kernel
  have hsplit : splitId "BaseException.__getattribute__" = some ("BaseException", "__getattribute__") := by decide +kernel
  have sub := exc_inst (M := model prog w) Z X I (b := .type "BaseException") (by simp)
  refine codeAny_call_builtin PySem.F.attr_Exception.ga.plain PySem.F.entry_bexc_ga (@check_slot (model prog w) _ _ ⟨hh, g, d, t + 1, os⟩ "BaseException.__getattribute__" "BaseException" "__getattribute__" (.ref x) [.str name t] [] _ hk hsplit sub (PySem.F.args_bexc_ga _ _) ?_)
  refine wpAny_mono h ?_ fun _ _ z => z.elim
  rintro fin s' ⟨v, rfl, z⟩
  exact z
theorem excGet {v : Value} (Z : ExcK K C) (X : K.In s.heap) (I : InstAt s.heap x ox C od) (hf : findObj K C od name = some (.value v)) (hh : handedIn v = true) (h : Q v { s with toks := s.toks + 1 }) : wpAny (model prog w) A (getAttr (.ref x) name expr) Q E s := by
  refine excGet_open Z X I ?_
  obtain ⟨hp, g, d, t, os⟩ := s
  have L0 := I.type (M := model prog w)
  have L1 := looks_find (M := model prog w) X I hf
  unfold Builtin.«object.__getattribute__»
  repeat lk
  refine ⟨v, rfl, ?_⟩
  rw [handedOut_of hh]; exact wpAny_pure h
theorem excArgs_get {R : Result → Shared → Prop} {vs : Array Value} {a0 : Addr} (Z : ExcK K C) (X : K.In s.heap) (I : InstAt s.heap x ox C od) (hd : ox.data = .fields vs) (h0 : vs[0]? = some (.ref a0)) (h : R (.ok (.ret (.ref a0))) s) :
    codeAny (model prog w) A (.call (.builtin "getset_descriptor.__get__") ⟨[.builtin "BaseException.args", .ref x, .ref C], []⟩) R s := by
  obtain ⟨hh, g, d, t, os⟩ := s
  have L0 := I.type (M := model prog w)
  have L1 := looks_mroIn (M := model prog w) X (Z.sub (b := .type "BaseException") (by simp))
  have hx := I.at_
  refine codeAny_call_builtin KF.slot_gs.plain KF.entry_gs (KF.slot_gs.check _ _ _ _ _ _ _ _ PySem.F.typeOf_bexc_args (KF.args_gs _ _ _) ?_)
  unfold Builtin.«getset_descriptor.__get__» descrGet
  rw [dga_obj]
  refine wpAny_bind (wpAny_pure ?_)
  unfold descrGetter descrCheckInstance descrNameAndClass isInstance
  have hown : (descrOwnerAndName "BaseException.args").1 = "BaseException" := PySem.F.owner_bexc_args
  simp only [hown]
  repeat lk
  refine ⟨Code.quiet_builtin _ (by decide +kernel), codeAny_builtin PySem.F.entry_bexc_args ?_⟩
  unfold Builtin.«BaseException.args»
  refine wpAny_bind (wpAny_field hx hd h0 ?_)
  have hnd : (Value.ref a0 == doubtfulMember) = false := by first | rfl | decide | simp [doubtfulMember, rawInt]
  simp only [hnd, Bool.false_eq_true, if_false]
  exact wpAny_pure h
theorem excArgs {vs : Array Value} {a0 : Addr} (Z : ExcK K C) (X : K.In s.heap) (I : InstAt s.heap x ox C od) (hf : findObj K C od "args" = some (.bind (.builtin "getset_descriptor.__get__") (.builtin "BaseException.args")))
    (hd : ox.data = .fields vs) (h0 : vs[0]? = some (.ref a0)) (h : Q (.ref a0) { s with toks := s.toks + 1 }) : wpAny (model prog w) A (getAttr (.ref x) "args" expr) Q E s := by
  refine excGet_open Z X I ?_
  have I' := I
  obtain ⟨hp, g, d, t, os⟩ := s
  have L0 := I.type (M := model prog w)
  have L1 := looks_find (M := model prog w) X I hf
  unfold Builtin.«object.__getattribute__»
  repeat (first | with_reducible refine wpAny_call ?_ | lk)
  refine excArgs_get (s := ⟨hp, g, d, t + 1, os⟩) Z X I' hd h0 ?_
  refine wpAny_pure ⟨_, rfl, ?_⟩
  rw [handedOut_of rfl]; exact wpAny_pure h
end
end Mine
namespace Mine
open PySem PySem.W PySem.Calls PyProof.Rows Builtin Builtin.ObjectAttr
section
variable {prog : Program} {w : World} {A : Around} {E : Value → Shared → Prop} {s : Shared} {K : Frag} {x C : Addr} {ox : Obj} {od : Option Obj} {name : Str} {expr : Bool} {R : Result → Shared → Prop}
theorem excSet_open {tk : Tok} {v : Value} (Z : ExcK K C) (X : K.In s.heap) (I : InstAt s.heap x ox C od) (ht : takerIn K C name = some none)
    (h : ∀ b, wpAny (model prog w) A.in1 (storeInOwnDict (.ref x) (.ref C) (.str name tk) name v b)
      (fun fin s' => match fin with | .done f => R (.ok f) s' | .again c' => c'.quiet = true ∧ codeAny (model prog w) A c' R s') (fun e s' => R (.error e) s') s) :
    codeAny (model prog w) A (.call (.builtin "object.__setattr__") ⟨[.ref x, .str name tk, v], []⟩) R s := by
  have SF := PySem.F.store_object
  obtain ⟨cd, hc, hmro, _⟩ := Z.cls
  have sub : Looks (model prog w) s.heap (isInstance (.ref x) (.type "object")) true := exc_inst Z X I (by simp)
  refine codeAny_call_builtin SF.slot.plain SF.entry (@check_slot (model prog w) _ _ s "object.__setattr__" "object" "__setattr__" (.ref x) [.str name tk, v] [] _ SF.kind SF.split sub (SF.args (.ref x) (.str name tk) v) ?_)
  obtain ⟨attr, ha, hr⟩ := Option.bind_eq_some_iff.mp ht
  have hm : Looks (model prog w) s.heap (mroOf (.ref C)) cd.mro := (looks_clsIn X hc).andThen .now
  have L3 : Looks (model prog w) s.heap (storeTaker? attr) none := by
    cases attr with
    | none => exact .now
    | some a =>
      obtain ⟨b, hb, hbe⟩ := Option.map_eq_some_iff.mp hr
      cases b with
      | true => cases hbe
      | false => exact (looks_takesIn X hb).andThen .now
  rw [osa_eq, refuse_eq]
  refine wpAny_bind (wpAny_bind (I.type.here (wpAny_bind (hm.here ?_))))
  rw [hmro, refuseLoop_ref, PySem.F.store_Exception.passes]
  refine wpAny_pure (wpAny_bind (I.type.here (wpAny_bind ((looks_findIn X ha).here (wpAny_bind (L3.here ?_))))))
  exact h _
theorem storeTail {Q : Fin → Shared → Prop} {dx : Addr} {es : List DictEntry} {n : Nat} {tk : Tok} {v : Value} (hd : s.heap.get? dx = some (dictOf es n)) (hr : es.any (·.refKey) = false) (hz : es.length < 1000)
    (q : ∀ t, (s.heap.update dx (Obj.putName name (PyData.keyHash w.params name) (.str name t) v)).get? dx = some (dictOf (putL name (PyData.keyHash w.params name) (.str name t) v es) (putN name es n)) →
      Q (.done (.ret .none)) { s with heap := s.heap.update dx (Obj.putName name (PyData.keyHash w.params name) (.str name t) v), toks := s.toks + 1 }) :
    wpAny (model prog w) A (storeInDict dx (.str name tk) name v) Q E s := by
  have D' : (s.heap.update dx (Obj.putName name (PyData.keyHash w.params name) (.str name s.toks) v)).get? dx = some (dictOf (putL name (PyData.keyHash w.params name) (.str name s.toks) v es) (putN name es n)) := by
    have := Heap.get?_update_self (Obj.putName name (PyData.keyHash w.params name) (.str name s.toks) v) hd (by rw [putName_dict]; rfl)
    rw [putName_dict] at this; exact this
  refine wpAny_bind (wpAny_pure (wpAny_bind ?_))
  unfold nsSet
  refine wpAny_bind (wpAny_bind (wpAny_askSetting (wpAny_pure (wpAny_bind (wpAny_mkText (wpAny_bind (wpAny_loadPart hd ?_)))))))
  have cc : (!es.toArray.any (·.key.isStr name) && es.toArray.any (·.refKey)) = false := by
    have : es.toArray.any (·.refKey) = false := by simpa using hr
    rw [this, Bool.and_false]
  dsimp only
  rw [aRefKeyMayBeTheName_at, cc]
  refine wpAny_updatePart hd ?_
  have hz' := putL_len name (PyData.keyHash w.params name) (.str name s.toks) v es
  refine wpAny_bind (wpAny_lookBehind D' (pastItsLine_dict (by rw [List.size_toArray, sizeLine_eq]; omega)) ?_)
  exact wpAny_pure (q _ D')
theorem excSet0 {tk : Tok} {v : Value} {vs : Array Value} (Z : ExcK K C) (X : K.In s.heap) (hx : s.heap.get? x = some (excObj C none vs)) (ht : takerIn K C name = some none)
    (q : ∀ t h', h'.get? x = some (excObj C (some s.heap.objs.size) vs) → h'.get? s.heap.objs.size = some (dictOf (putL name (PyData.keyHash w.params name) (.str name t) v []) (putN name [] 0)) → (∀ b o, b ≠ x → s.heap.get? b = some o → h'.get? b = some o) →
      R (.ok (.ret .none)) { s with heap := h', toks := s.toks + 1 }) :
    codeAny (model prog w) A (.call (.builtin "object.__setattr__") ⟨[.ref x, .str name tk, v], []⟩) R s := by
  have I : InstAt s.heap x (excObj C none vs) C none := ⟨hx, rfl, rfl, trivial⟩
  refine excSet_open Z X I ht fun b => ?_
  obtain ⟨cd, hc, _, _, _, hd'⟩ := Z.cls
  have hxl : x < s.heap.objs.size := Heap.lt_size hx
  have hx1 : (s.heap.push { cls := .type "dict", data := .dict #[] }).get? x = some (excObj C none vs) := Heap.get?_push_of_some _ hx
  have hd1 : (s.heap.push { cls := .type "dict", data := .dict #[] }).get? s.heap.objs.size = some (dictOf [] 0) := Heap.get?_push_size _ rfl
  have hx2 : ((s.heap.push { cls := .type "dict", data := .dict #[] }).update x fun o => { o with dict := some s.heap.objs.size }).get? x = some (excObj C (some s.heap.objs.size) vs) := Heap.get?_update_self _ hx1 rfl
  have hd2 : ((s.heap.push { cls := .type "dict", data := .dict #[] }).update x fun o => { o with dict := some s.heap.objs.size }).get? s.heap.objs.size = some (dictOf [] 0) := (Heap.get?_update_other _ _ (Nat.ne_of_lt hxl)).trans hd1
  refine wpAny_bind (wpAny_pure (wpAny_bind (wpAny_bind (wpAny_loadPart hx (wpAny_bind ((looks_clsIn X hc).here ?_))))))
  rw [hd']
  refine wpAny_bind (m := alloc _) (wpAny_alloc ?_)
  refine wpAny_bind (m := update _ _) (wpAny_update hx1 ?_)
  refine wpAny_pure (a := some s.heap.objs.size) ?_
  have hk : ∀ b o, b ≠ x → s.heap.get? b = some o → ((s.heap.push { cls := .type "dict", data := .dict #[] }).update x fun o => { o with dict := some s.heap.objs.size }).get? b = some o := fun b o hb e =>
    (Heap.get?_update_other _ _ (Ne.symm hb)).trans (Heap.get?_push_of_some _ e)
  generalize ((s.heap.push { cls := .type "dict", data := .dict #[] }).update x fun o => { o with dict := some s.heap.objs.size }) = h₂ at hx2 hd2 hk
  refine storeTail (s := { s with heap := h₂ }) hd2 rfl (by simp) fun t D => ?_
  refine q t _ ?_ D fun b o hb e => ?_
  · exact (Heap.get?_update_other _ _ (Nat.ne_of_gt hxl)).trans hx2
  · exact (Heap.get?_update_other _ _ (Nat.ne_of_gt (Heap.lt_size e))).trans (hk b o hb e)
theorem excSet1 {tk : Tok} {v : Value} {vs : Array Value} {dx : Addr} {es : List DictEntry} {n : Nat} (Z : ExcK K C) (X : K.In s.heap) (hx : s.heap.get? x = some (excObj C (some dx) vs)) (hd : s.heap.get? dx = some (dictOf es n)) (ht : takerIn K C name = some none)
    (hr : es.any (·.refKey) = false) (hz : es.length < 1000)
    (q : ∀ t, (s.heap.update dx (Obj.putName name (PyData.keyHash w.params name) (.str name t) v)).get? dx = some (dictOf (putL name (PyData.keyHash w.params name) (.str name t) v es) (putN name es n)) →
      R (.ok (.ret .none)) { s with heap := s.heap.update dx (Obj.putName name (PyData.keyHash w.params name) (.str name t) v), toks := s.toks + 1 }) :
    codeAny (model prog w) A (.call (.builtin "object.__setattr__") ⟨[.ref x, .str name tk, v], []⟩) R s := by
  have I : InstAt s.heap x (excObj C (some dx) vs) C (some (dictOf es n)) := ⟨hx, rfl, rfl, hd⟩
  refine excSet_open Z X I ht fun b => ?_
  obtain ⟨cd, hc, _, _, _, hd'⟩ := Z.cls
  refine wpAny_bind (wpAny_pure (wpAny_bind (wpAny_bind (wpAny_loadPart hx (wpAny_bind ((looks_clsIn X hc).here ?_))))))
  rw [hd']
  refine wpAny_pure (a := some dx) ?_
  exact storeTail hd hr hz q
noncomputable def makesExcIn (K : Frag) (C : Addr) : Bool := match K.lookup C with
  | some ⟨_, _, .cls cd, sl⟩ => !cd.abstract && !cd.hasDel && (sl.toList[4]?).join == some (.builtin "Exception.__new__") && cd.mro == [.ref C, .type "Exception", .type "BaseException", .type "object"] &&
      specialIn K (.ref C) "__call__" == some (some (.builtin "type.__call__")) && instIn K (.ref C) (.type "type") == some true
  | _ => false
structure MakesExc (M : Model) (h : Heap) (C : Addr) : Prop where
  obj : ∃ oc od cd sl, h.get? C = some ⟨oc, od, .cls cd, sl⟩ ∧ cd.abstract = false ∧ cd.hasDel = false ∧ cd.mro = [.ref C, .type "Exception", .type "BaseException", .type "object"]
  made : Looks M h (Bind.madeBy (.ref C)) (some "Exception.__new__")
  sub : ∀ b, [Value.ref C, .type "Exception", .type "BaseException", .type "object"].contains b = true → Looks M h (isSubtype (.ref C) b) true
  nosub : ∀ b, [Value.ref C, .type "Exception", .type "BaseException", .type "object"].contains b = false → Looks M h (isSubtype (.ref C) b) false
  call : Looks M h (specialOf (.ref C) "__call__") (some (.builtin "type.__call__"))
  typ : Looks M h (isInstance (.ref C) (.type "type")) true
theorem makesExc_of {K : Frag} {M : Model} {h : Heap} (X : K.In h) {C : Addr} (e : makesExcIn K C = true) : MakesExc M h C := by
  unfold makesExcIn at e
  split at e
  · rename_i oc od cd sl ho
    simp only [Bool.and_eq_true, Bool.not_eq_true', beq_iff_eq] at e
    obtain ⟨⟨⟨⟨⟨e1, e2⟩, e3⟩, e4⟩, e7⟩, e8⟩ := e
    have hc : clsIn K C = some cd := by unfold clsIn; rw [ho]
    have hm : Looks M h (mroOf (.ref C)) cd.mro := (looks_clsIn X hc).andThen .now
    have made : Looks M h (Bind.madeBy (.ref C)) (some "Exception.__new__") := by
      intro A Q E s k q
      unfold Bind.madeBy
      refine wpAny_bind (hm A _ E s k ?_)
      rw [e4, List.forIn_cons]
      refine wpAny_bind (wpAny_bind (wpAny_bind (wpAny_bind (wpAny_loadPart (k _ _ (X _ _ ho)) (wpAny_pure ?_)))))
      dsimp only
      rw [← Array.getElem?_toList, e3]
      exact wpAny_pure (wpAny_pure (wpAny_pure q))
    refine ⟨⟨oc, od, cd, sl, X _ _ ho, e1, e2, e4⟩, made, fun b hb => looks_mroIn X ?_, fun b hb => looks_mroIn X ?_, looks_specialIn X e7, looks_instIn X e8⟩
    · unfold mroIn; rw [hc, Option.bind_some, e4, hb]; rfl
    · unfold mroIn; rw [hc, Option.bind_some, e4, hb]; rfl
  · cases e
end
section
variable {prog : Program} {w : World} {A : Around} {C : Addr} {R : Result → Shared → Prop} {h : Heap} {g : Array GenState} {d : Drawn} {t : Nat} {os : OsState}
theorem excNew {rest : List Value} {kw : List (Str × Value)} (Y : MakesExc (model prog w) h C)
    (hq : R (.ok (.ret (.ref (h.objs.size + 1)))) ⟨(h.push { cls := .type "tuple", data := .seq rest.toArray }).push (excObj C none #[.ref h.objs.size, .none, .none, .none, .bool false, .none]), g, d, t, os⟩) (hrest : rest.length ≤ sizeLine) :
    codeAny (model prog w) A (.call (.builtin "Exception.__new__") ⟨.ref C :: rest, kw⟩) R ⟨h, g, d, t, os⟩ := by
  obtain ⟨⟨oc, od, cd, sl, hC, e1, e2, e4⟩, made, sub, nosub, call, typ⟩ := Y
  have Fn := PySem.F.excBase_Exception
  have s1 := sub (.type "Exception") (by simp)
  have n1 := nosub (.type "AttributeError") (by simp)
  have n2 := nosub (.type "NameError") (by simp)
  have hm : Looks (model prog w) h (mroOf (.ref C)) cd.mro := ((Looks.ld (part := none) hC).andThen .now).andThen .now
  have base : Looks (model prog w) h (Bind.staticBase (.ref C)) (.ref C) := by
    intro A Q E s k q
    unfold Bind.staticBase
    refine wpAny_bind (hm A _ E s k ?_)
    rw [e4, List.forIn_cons]
    exact wpAny_bind (wpAny_bind (wpAny_bind (made A _ E s k (wpAny_pure (wpAny_pure (wpAny_pure q))))))
  have here : ∀ id, Manifest.canonical "Exception.__new__" = Manifest.canonical id → Looks (model prog w) h (Bind.madeHere id (.ref C)) () := fun id hid => base.andThen (made.andThen (Looks.of_pure (by simp only [Option.map_some, hid, bne_self_eq_false, Bool.false_eq_true, if_false])))
  have here1 := here "BaseException.__new__" Fn.canon
  have here2 := here "Exception.__new__" rfl
  refine codeAny_call_builtin_code (Code.quiet_builtin _ Fn.quiet) ?_
  have hstar := Fn.noStar
  simp only [checkBuiltinCall, Fn.newKind, Fn.newSplit, Fn.newRow]
  repeat (first | simp only [bne_self_eq_false, Bool.false_eq_true, if_false] | lk)
  have hends := Fn.ends
  refine codeAny_builtinAt Fn.entry ?_
  unfold Builtin.«BaseException.__new__»
  refine PySem.wpAt_bind ?_
  show PySem.wpAt _ _ _ (stack >>= _) _ _ _
  refine PySem.wpAt_bind (PySem.wpAt_stack fun p below => PySem.wpAt_of_wpAny ?_)
  wp_walk
  refine PySem.wpAt_of_wpAny ?_
  rw [Fn.owner]
  repeat (first | lk | wp_step)
  have hC2 := Heap.get?_push_of_some { cls := .ref C, data := .fields (#[.ref h.objs.size, .none, .none, .none, .bool false, .none] ++ (List.replicate 0 (rawInt 0)).toArray) } (Heap.get?_push_of_some { cls := .type "tuple", data := .seq rest.toArray } hC)
  refine wpAny_loadPart hC2 ?_
  simp only [e2]
  repeat (first | lk | wp_step)
  show R _ _
  rw [Heap.size_push]
  exact hq
theorem excMake {rest : List Value} {kw : List (Str × Value)} {init : Value} (Y : MakesExc (model prog w) h C) (hi : Looks (model prog w) h (typeLookup (.ref C) "__init__") (some init))
    (hb : ∀ self, Looks (model prog w) h (bindSpecial init self) (init, [self])) (hrest : rest.length ≤ sizeLine)
    (hq : codeAny (model prog w) (A.under (.builtin "type.__call__" ⟨.ref C :: rest, kw⟩)) (.call init ⟨.ref (h.objs.size + 1) :: rest, kw⟩) (InitBack (h.objs.size + 1) R)
      ⟨(h.push { cls := .type "tuple", data := .seq rest.toArray }).push (excObj C none #[.ref h.objs.size, .none, .none, .none, .bool false, .none]), g, d, t, os⟩) :
    codeAny (model prog w) A (.call (.ref C) ⟨rest, kw⟩) R ⟨h, g, d, t, os⟩ := by
  have Y' := Y
  obtain ⟨⟨oc, od, cd, sl, hC, e1, e2, e4⟩, made, sub, nosub, call, typ⟩ := Y
  refine codeAny_of_tree ?_
  show wpAny _ _ (callAny (.ref C) _) _ _ _
  refine nd_load hC ?_
  show wpAny _ _ (callAny.viaDunder (.ref C) _) _ _ _
  unfold callAny.viaDunder
  refine wpAny_bind (call.at ?_)
  dsimp only
  rw [tc_bind]
  refine wpAny_bind (wpAny_pure (wpAny_bind (wpAny_pure ?_)))
  refine wpAny_pure (a := Fin.again (.call (.builtin "type.__call__") ⟨.ref C :: rest, kw⟩)) (And.intro rfl ?_)
  refine codeAny_call_builtin_at (Code.quiet_builtin _ (by decide +kernel)) entry_typeCall (check_slot tc_kind tc_split typ (tc_args _ _ _) ?_)
  unfold Builtin.«type.__call__»
  have hm : Looks (model prog w) h (mroOf (.ref C)) cd.mro := ((Looks.ld (part := none) hC).andThen .now).andThen .now
  have e5 : cd.mro.isEmpty = false := by rw [e4]; rfl
  repeat (first | simp only [e5, Bool.false_eq_true, if_false] | with_reducible refine wpAny_call ?_ | lk)
  refine excNew Y' ?_ hrest
  have k : ∀ b o, h.get? b = some o → ((h.push { cls := .type "tuple", data := .seq rest.toArray }).push (excObj C none #[.ref h.objs.size, .none, .none, .none, .bool false, .none])).get? b = some o := fun b o e => Heap.get?_push_of_some _ (Heap.get?_push_of_some _ e)
  have hx : ((h.push { cls := .type "tuple", data := .seq rest.toArray }).push (excObj C none #[.ref h.objs.size, .none, .none, .none, .bool false, .none])).get? (h.objs.size + 1) = some (excObj C none #[.ref h.objs.size, .none, .none, .none, .bool false, .none]) := by heap_get
  generalize (h.push { cls := .type "tuple", data := .seq rest.toArray }).push (excObj C none #[.ref h.objs.size, .none, .none, .none, .bool false, .none]) = h2 at hq k hx
  have t1 : Looks (model prog w) h2 (typeOf (.ref (h.objs.size + 1))) (.ref C) := (Looks.ld hx).andThen .now
  have s1 := (sub (.ref C) (by simp)).keeps k
  have i1 := hi.keeps k
  have b1 := (hb (.ref (h.objs.size + 1))).keeps k
  unfold isInstance callSpecial? specialOf
  repeat (first | with_reducible refine wpAny_call ?_ | lk)
  refine codeAny_mono hq fun r s' z => ?_
  rcases r with e | (v | _ | _ | _) <;> first | exact z | exact z.elim | skip
  obtain ⟨rfl, z⟩ := z
  exact wpAny_pure (wpAny_pure z)
end
end Mine
namespace Mine
open PySem PySem.W PySem.Calls PyProof.Rows Builtin Builtin.ObjectAttr
section
variable {prog : Program} {w : World} {A : Around} {E : Value → Shared → Prop} {s : Shared} {K : Frag} {x C : Addr} {R : Result → Shared → Prop}
theorem excInit_find : (findCls [] (.type "Exception") (.type "type") (Str.ofString "__init__")) = some (.val (.builtin "Exception.__init__")) := by kernel_rfl
theorem excInit_get {pl : Sem Bool} {Q : Value × List Value → Shared → Prop} (h : Q (.builtin "Exception.__init__", []) { s with toks := s.toks + 1 }) :
    wpAny (model prog w) A (getMethod (.type "Exception") (Str.ofString "__init__") pl) Q E s := by
  have X : Frag.In [] s.heap := by intro a o e; cases e
  have hstub : opaqueClassAbove (.type "Exception") = pure none := by unfold opaqueClassAbove; dsimp only; rw [show Manifest.isStub "Exception" = false by decide +kernel]; rfl
  have ht : typeOf (.type "Exception") = pure (.type "type") := by first | rfl | kernel_rfl
  have L0 : Looks (model prog w) s.heap (typeOf (.type "Exception")) (.type "type") := Looks.of_pure ht
  have hg : findIn [] (.type "type") "__getattribute__" = some (some (.builtin "type.__getattribute__")) := type_tga
  unfold getMethod specialOf
  refine wpAny_bind (wpAny_bind (L0.here ((looks_findIn X hg).here ?_)))
  dsimp only
  rw [if_pos canon_tga]
  refine wpAny_bind (wpAny_mono (Q := fun v => Q (v, [])) (E := E) ?_ (fun _ _ z => wpAny_pure z) fun _ _ z => z)
  have LO : Looks (model prog w) s.heap (opaqueClassAbove (.type "Exception")) none := Looks.of_pure hstub
  refine cls_open X LO L0 hg (looks_hook X (r := none) (by rfl)) (by show subIn [] _ _ = _; rfl) excInit_find ?_
  refine wpAny_pure (by show wpAny _ _ (handedOut _) _ _ _; rw [handedOut_of (by decide +kernel)]; exact wpAny_pure h)
theorem excInit {oe : Obj} {vs : Array Value} {t0 : Addr} {rest : List Value} (Z : ExcK K C) (X : K.In s.heap) (he : s.heap.get? x = some oe) (hcls : oe.cls = .ref C) (hd : oe.data = .fields vs) (h0 : vs[0]? = some (.ref t0)) (hrest : rest.length ≤ sizeLine)
    (h : R (.ok (.ret .none)) { s with heap := (s.heap.push { cls := .type "tuple", data := .seq rest.toArray }).update x (Obj.mapFields (·.setIfInBounds 0 (.ref s.heap.objs.size))) }) :
    codeAny (model prog w) A (.call (.builtin "Exception.__init__") ⟨.ref x :: rest, []⟩) R s := by
  have F := PySem.F.excBase_Exception
  have L0 : Looks (model prog w) s.heap (typeOf (.ref x)) (.ref C) := (Looks.ld he).andThen (by rw [hcls]; exact .now)
  have L1 : Looks (model prog w) s.heap (isInstance (.ref x) (.type "Exception")) true := L0.andThen (looks_mroIn X (Z.sub (by simp)))
  have L2 : Looks (model prog w) s.heap (isSubtype (.ref C) (.type "Exception")) true := looks_mroIn X (Z.sub (by simp))
  refine codeAny_call_builtin F.init.plain F.initEntry ?_
  have hstar := F.noStar
  simp only [checkBuiltinCall, F.initKind, F.initSplit, F.initRow]
  refine wpAny_bind (L1.here ?_)
  simp only [Bool.not_true, Bool.false_eq_true, if_false]
  unfold Bind.checkArgs
  dsimp only
  refine wpAny_bind (m := Bind.printed "*" true _ _) ?_
  unfold Bind.printed Bind.receiverType
  rw [if_neg (by decide)]
  refine wpAny_bind (m := (if (Manifest.Receiver.self == Manifest.Receiver.cls) = true then pure (Value.ref x) else typeOf (.ref x))) ?_
  rw [if_neg (by decide)]
  refine L0.here ?_
  obtain ⟨cd, hc, _⟩ := Z.cls
  have LN : Looks (model prog w) s.heap (typeNameWhole (.ref C)) cd.name.toString := (looks_clsIn X hc).andThen .now
  refine wpAny_bind (LN.here (wpAny_pure (wpAny_bind ?_)))
  rw [if_pos (show (("Exception" != "*") = true) from by decide)]
  refine wpAny_pure (wpAny_onRaise ?_)
  rw [show ∀ (a b : String) (n : Nat), Bind.check ⟨.positional, "*", "Exception", .self, [⟨"args", .varPos, false⟩]⟩ a b n (List.map (fun x => x.fst) ([] : List (Str × Value))) = pure () from
    fun a b n => check_star_args _ _ _ _ _ _]
  refine wpAny_pure ?_
  unfold Builtin.«BaseException.__init__»
  dsimp only
  rw [if_neg (by simp)]
  unfold newTuple Builtin.BaseException.bexcPut
  have hsz : 0 < vs.size := (Array.getElem?_eq_some_iff.mp h0).1
  have he₁ := Heap.get?_push_of_some (h := s.heap) { cls := .type "tuple", data := .seq rest.toArray } he
  refine wpAny_bind (wpAny_newObj_type (wpAny_bind (wpAny_bind (wpAny_field he₁ hd h0 (wpAny_bind (wpAny_setField he₁ hd hsz ?_))))) (by show rest.toArray.size ≤ sizeLine; rw [List.size_toArray]; exact hrest))
  exact wpAny_letGo (wpAny_pure h)
end
end Mine
namespace Mine
open PySem PySem.W PyProof.Rows
section
variable {c : Cx} {d k : Nat} {fx : Fx} {ρ ρ' ρ'' : List Addr} {σ σ' : St} {h h' h'' : Heap} {s s' s₁ : Shared} {A : Around} {Q : V → St → Prop} {X : Fl → St → Prop}
  {loc loc' : List (Str × V)} {hp hp' : List O}
theorem HRel.push_ (r : HRel c ρ hp h) (o : Obj) : HRel c ρ hp (h.push o) := r.ext fun _ _ e => Heap.get?_push_of_some _ e
theorem get_push_ne {h : Heap} {o x : Obj} {a : Addr} (ha : a ≠ h.objs.size) (e : (h.push o).get? a = some x) : h.get? a = some x := by
  obtain ⟨e1, e2⟩ := Heap.get?_some_iff.mp e
  refine Heap.get?_some_iff.mpr ⟨?_, e2⟩
  cases h; simpa [Heap.push, Array.getElem?_push, ha] using e1
theorem HRel.exc (r : HRel c ρ hp h) {i : Nat} {C : Addr} {dn : Option Nat} {a : V} {b : Bool} (e1 : hp[i]? = some (.exc C dn a b)) :
    ∃ x dd t0 vs, ρ[i]? = some x ∧ h.get? x = some (excObj C dd vs) ∧ vs[0]? = some t0 ∧ VR ρ h a t0 ∧ DictR ρ dn dd ∧ vs.size = 6 := by
  obtain ⟨x, ox, h1, h2, dd, x0, f1, f2, f3, f4, f5, rfl, h3, h4, h5⟩ := r.at e1
  exact ⟨x, dd, x0, _, h1, h2, rfl, h3, h4, rfl⟩
theorem HRel.excD (r : HRel c ρ hp h) {i j : Nat} {C : Addr} {a : V} {b : Bool} {kvs : List (Str × V)} (e1 : hp[i]? = some (.exc C (some j) a b)) (e2 : hp[j]? = some (.ns kvs)) :
    ∃ x dx t0 vs es n, ρ[i]? = some x ∧ ρ[j]? = some dx ∧ h.get? x = some (excObj C (some dx) vs) ∧ h.get? dx = some (dictOf es n) ∧ NsR ρ h kvs es ∧ InstAt h x (excObj C (some dx) vs) C (some (dictOf es n)) ∧ vs[0]? = some t0 ∧ VR ρ h a t0 := by
  obtain ⟨x, dd, t0, vs, h1, h2, h3, h4, h5, _⟩ := r.exc e1
  obtain ⟨dx', od, g1, g2, es, n, rfl, g3⟩ := r.at e2
  cases dd with
  | none => exact h5.elim
  | some dx =>
    have e : dx = dx' := Option.some.inj ((show ρ[j]? = some dx from h5).symm.trans g1)
    subst e
    exact ⟨x, dx, t0, vs, es, n, h1, g1, h2, g2, g3, ⟨h2, rfl, rfl, g2⟩, h3, h4⟩
inductive AttrEI (c : Cx) (attr : Str) (Q : V → St → Prop) (o : V) (σ₁ : St) : Prop
  | mk (i : Nat) (C : Addr) (j : Nat) (a : V) (b : Bool) (kvs : List (Str × V)) (v : V) (h0 : o = .ref i) (h1 : σ₁.hp[i]? = some (.exc C (some j) a b)) (h2 : σ₁.hp[j]? = some (.ns kvs)) (h3 : kvs.lookup attr = some v) (h4 : ExcK c.K C)
    (h5 : findIn c.K (.ref C) attr = some none) (h6 : v.handed = true) (q : Q v σ₁) : AttrEI c attr Q o σ₁
theorem EV.attrE {value : Expr} {attr : Str} {pos : Pos} (h : EV c d fx (eval value fx.env) σ (AttrEI c attr Q))
    (he : eval (.Attribute value attr pos) fx.env = (do
      let o ← eval value fx.env
      standAt pos.atName
      let r ← holding [o] (getAttr o attr true)
      letTemporaryGo value o r
      pure r) := by with_unfolding_all rfl) : EV c d fx (eval (.Attribute value attr pos) fx.env) σ Q := fun ρ s A R r => by
  refine Attribute_any_ (wpAny_mono (h ρ s A R r) ?_ fun _ _ e => e) he
  rintro x s₁ ⟨ρ₁, _, σ₁, p₁, e₁, r₁, v₁, i, C, j, a, b, kvs, v, rfl, h1, h2, h3, h4, h5, h6, q⟩
  cases v₁ using VR.refC with
  | ref hx =>
    obtain ⟨x', dx, t0, vs, es, n, g1, g2, g3, g4, g5, I, g6, g7⟩ := r₁.1.toHRel.excD h1 h2
    rw [hx] at g1; cases g1
    obtain ⟨u, k1, k2⟩ := g5.get h3
    exact excGet h4 (r₁.1.ok.k.keeps r₁.1.keep) I (findObj_own h4.has h5 rfl (by rw [lookIn_dict]; exact k1)) (k2.handed h6) ⟨ρ₁, v, σ₁, p₁, e₁, r₁, k2, q⟩
inductive SetE0I (c : Cx) (attr : Str) (v : V) (Q : St → Prop) (u : V) (σ₂ : St) : Prop
  | mk (i : Nat) (C : Addr) (a : V) (h0 : u = .ref i) (h1 : σ₂.hp[i]? = some (.exc C none a false)) (h3 : ExcK c.K C) (h4 : takerIn c.K C attr = some none)
    (q : Q ⟨σ₂.loc, σ₂.hp.set i (.exc C (some σ₂.hp.length) a false) ++ [.ns [(attr, v)]]⟩) : SetE0I c attr v Q u σ₂
theorem XV.setattrE0 {o : Expr} {attr : Str} {pos' : Pos} {value : Expr} {pos : Pos}
    (h : EV c d fx (eval value fx.env) σ (fun v σ₁ => EV c d fx (eval o fx.env) σ₁ (SetE0I c attr v (X .next))))
    (hs : swapsWith value (some (.Attribute o attr pos')) pos.line fx.env = pure false := by rfl) : XV c d fx (exec (.Assign [.Attribute o attr pos'] value pos) fx.env) σ X := fun ρ s A R r => by
  refine plainObj_wpAny_Assign_Attribute (wpAny_mono (h ρ s A R r) ?_ fun _ _ e => e) hs
  rintro x s₁ ⟨ρ₁, v, σ₁, p₁, e₁, r₁, v₁, h₁⟩
  refine wpAny_mono (h₁ ρ₁ s₁ A R r₁) ?_ fun _ _ e => e
  rintro y s₂ ⟨ρ₂, _, ⟨loc₂, hp₂⟩, p₂, e₂, r₂, v₂, i, C, a, rfl, h1, h3, h4, q⟩
  cases v₂ using VR.refC with
  | ref hx =>
    rename_i x'
    obtain ⟨x'', ox, g1, g2, dd, x0, f1, f2, f3, f4, f5, rfl, g3, g4, g5⟩ := r₂.1.toHRel.at h1
    have ex := Option.some.inj (hx.symm.trans g1)
    subst ex
    obtain ⟨rfl, rfl, rfl, rfl, rfl⟩ := g5 rfl
    cases dd with
    | some _ => exact g4.elim
    | none =>
      have X := r₂.1.ok.k.keeps r₂.1.keep
      have v₁' := v₁.mono p₂ (r₁.1.immKeep e₂.keep)
      have I : InstAt s₂.heap x' (excObj C none #[x0, .none, .none, .none, .bool false, .none]) C none := ⟨g2, rfl, rfl, trivial⟩
      refine set_plain X I h3.sa (excSet0 (s := { s₂ with toks := s₂.toks + 1 }) h3 X g2 h4 fun t h' D1 D2 k => ?_)
      have hs : Keep [x'] s₂.heap h' := fun b o n e => k b o (fun z => n (by rw [z]; exact .head _)) e
      have ra := r₂.1.alloc (o := .ns [(attr, v)]) (x := dictOf (putL attr (PyData.keyHash c.w.params attr) (.str attr t) _ []) (putN attr [] 0)) rfl
        ⟨_, _, rfl, NsR.put (kvs := []) ((v₁'.mono (pre_snoc ..) fun b o _ e => Heap.get?_push_of_some _ e)) trivial⟩
      have hs' : Keep [x'] (s₂.heap.push (dictOf (putL attr (PyData.keyHash c.w.params attr) (.str attr t) _ []) (putN attr [] 0))) h' := fun b o n e => by
        by_cases hb : b = s₂.heap.objs.size
        · subst hb
          rw [Heap.get?_push_size _ rfl] at e
          rw [D2]; exact e
        · refine hs b o n ?_
          exact get_push_ne hb e
      have hi : i < hp₂.length := by rw [← r₂.1.len]; exact (List.getElem?_eq_some_iff.mp hx).1
      have km : ImmKeep (s₂.heap.push (dictOf (putL attr (PyData.keyHash c.w.params attr) (.str attr t) _ []) (putN attr [] 0))) h' := ra.toHRel.immKeep (hs'.sub fun b m => by rw [List.mem_singleton] at m; subst m; exact List.mem_append_left _ (mem_of_get? hx))
      have ru := ra.upd (i := i) (o := .exc C (some hp₂.length) a false) (pre_get (pre_snoc ..) hx) hs' D1 ⟨_, _, _, _, _, _, _, rfl, g3.mono (pre_snoc ..) (fun b o f e => km b o f (Heap.get?_push_of_some _ e)), (by show (ρ₂ ++ [s₂.heap.objs.size])[hp₂.length]? = _; rw [← r₂.1.len]; simp), fun _ => ⟨rfl, rfl, rfl, rfl, rfl⟩⟩
      rw [List.set_append_left _ _ hi] at ru
      exact ⟨_, .next, _, (e₁.trans e₂ r₁.1.hasL).trans ((Ext.alloc _).trans (Ext.upd (pre_get (pre_snoc ..) hx) hs') ra.hasL) r₂.1.hasL, ⟨ru, r₂.2⟩, .next, q⟩
inductive SetEI (c : Cx) (attr : Str) (v : V) (Q : St → Prop) (u : V) (σ₂ : St) : Prop
  | mk (i : Nat) (C : Addr) (j : Nat) (a : V) (b : Bool) (kvs : List (Str × V)) (h0 : u = .ref i) (h1 : σ₂.hp[i]? = some (.exc C (some j) a b)) (h2 : σ₂.hp[j]? = some (.ns kvs)) (h3 : ExcK c.K C) (h4 : takerIn c.K C attr = some none) (h5 : kvs.length < 1000)
    (q : Q ⟨σ₂.loc, σ₂.hp.set j (.ns (put attr v kvs))⟩) : SetEI c attr v Q u σ₂
theorem XV.setattrE {o : Expr} {attr : Str} {pos' : Pos} {value : Expr} {pos : Pos}
    (h : EV c d fx (eval value fx.env) σ (fun v σ₁ => EV c d fx (eval o fx.env) σ₁ (SetEI c attr v (X .next))))
    (hs : swapsWith value (some (.Attribute o attr pos')) pos.line fx.env = pure false := by rfl) : XV c d fx (exec (.Assign [.Attribute o attr pos'] value pos) fx.env) σ X := fun ρ s A R r => by
  refine plainObj_wpAny_Assign_Attribute (wpAny_mono (h ρ s A R r) ?_ fun _ _ e => e) hs
  rintro x s₁ ⟨ρ₁, v, σ₁, p₁, e₁, r₁, v₁, h₁⟩
  refine wpAny_mono (h₁ ρ₁ s₁ A R r₁) ?_ fun _ _ e => e
  rintro y s₂ ⟨ρ₂, _, ⟨loc₂, hp₂⟩, p₂, e₂, r₂, v₂, i, C, j, a, b, kvs, rfl, h1, h2, h3, h4, h5, q⟩
  cases v₂ using VR.refC with
  | ref hx =>
    obtain ⟨x', dx, t0, vs, es, n, g1, g2, g3, g4, g5, I, g6, g7⟩ := r₂.1.toHRel.excD h1 h2
    have ex := Option.some.inj (hx.symm.trans g1)
    subst ex
    have X := r₂.1.ok.k.keeps r₂.1.keep
    have v₁' := v₁.mono p₂ (r₁.1.immKeep e₂.keep)
    refine set_plain X I h3.sa (excSet1 (s := { s₂ with toks := s₂.toks + 1 }) h3 X g3 g4 h4 g5.noRef (by rw [← g5.length]; exact h5) fun t D => ?_)
    have hs : Keep [dx] s₂.heap (s₂.heap.update dx (Obj.putName attr (PyData.keyHash c.w.params attr) (.str attr t) x)) := .of_sameBut (Heap.SameBut.update ..)
    have k : ImmKeep s₂.heap (s₂.heap.update dx (Obj.putName attr (PyData.keyHash c.w.params attr) (.str attr t) x)) := r₂.1.toHRel.immKeep (hs.sub fun b m => by rw [List.mem_singleton] at m; subst m; exact mem_of_get? g2)
    exact ⟨_, .next, _, (e₁.trans e₂ r₁.1.hasL).trans (.upd g2 hs) r₂.1.hasL, ⟨r₂.1.upd (o := .ns (put attr v kvs)) g2 hs D ⟨_, _, rfl, NsR.put (v₁'.mono (List.prefix_refl _) k) (g5.mono (List.prefix_refl _) k)⟩, r₂.2⟩, .next, q⟩
theorem args_get_special : specialIn [] (.builtin "BaseException.args") "__get__" = some (some (.builtin "getset_descriptor.__get__")) := by decide +kernel
theorem args_set_takes : takesIn [] (.builtin "BaseException.args") = some true := by decide +kernel
theorem excArgs_find {K : Frag} {C : Addr} {od : Option Obj} (Z : ExcK K C) (h1 : findIn K (.ref C) "args" = some (some (.builtin "BaseException.args"))) : findObj K C od "args" = some (.bind (.builtin "getset_descriptor.__get__") (.builtin "BaseException.args")) := by
  obtain ⟨cd, hc, _⟩ := Z.cls
  have h2 : specialIn K (.builtin "BaseException.args") "__get__" = some (some (.builtin "getset_descriptor.__get__")) := args_get_special
  have h3 : takesIn K (.builtin "BaseException.args") = some true := args_set_takes
  unfold findObj
  rw [hc, Option.bind_some, h1, Option.bind_some]
  simp only [h2, Option.bind_some, h3]
inductive ArgsEI (c : Cx) (Q : V → St → Prop) (o : V) (σ₁ : St) : Prop
  | mk (i : Nat) (C : Addr) (j : Nat) (as : List V) (b : Bool) (kvs : List (Str × V)) (h0 : o = .ref i) (h1 : σ₁.hp[i]? = some (.exc C (some j) (.tup as) b)) (h2 : σ₁.hp[j]? = some (.ns kvs)) (h4 : ExcK c.K C)
    (h5 : findIn c.K (.ref C) "args" = some (some (.builtin "BaseException.args"))) (q : Q (.tup as) σ₁) : ArgsEI c Q o σ₁
theorem EV.argsE {value : Expr} {pos : Pos} (h : EV c d fx (eval value fx.env) σ (ArgsEI c Q))
    (he : eval (.Attribute value "args" pos) fx.env = (do
      let o ← eval value fx.env
      standAt pos.atName
      let r ← holding [o] (getAttr o "args" true)
      letTemporaryGo value o r
      pure r) := by with_unfolding_all rfl) : EV c d fx (eval (.Attribute value "args" pos) fx.env) σ Q := fun ρ s A R r => by
  refine Attribute_any_ (wpAny_mono (h ρ s A R r) ?_ fun _ _ e => e) he
  rintro x s₁ ⟨ρ₁, _, σ₁, p₁, e₁, r₁, v₁, i, C, j, as, b, kvs, rfl, h1, h2, h4, h5, q⟩
  cases v₁ using VR.refC with
  | ref hx =>
    obtain ⟨x', dx, t0, vs, es, n, g1, g2, g3, g4, g5, I, g6, g7⟩ := r₁.1.toHRel.excD h1 h2
    rw [hx] at g1; cases g1
    cases g7 using VR.tupC with
    | tup ea ra => exact excArgs h4 (r₁.1.ok.k.keeps r₁.1.keep) I (excArgs_find h4 h5) rfl g6 ⟨ρ₁, _, σ₁, p₁, e₁, r₁, .tup ea ra, q⟩
end
end Mine
namespace Mine
open PySem PySem.W PyProof.Rows PySem.SeqAt
section
variable {c : Cx} {d k : Nat} {fx : Fx} {σ : St} {Q : V → St → Prop}
theorem TV.andB {e : Expr} {rest : List Expr} {pos : Pos} {Q : Bool → St → Prop} (h : TV c d fx e σ (fun b σ₁ => (b = true → TV c d fx (.BoolOp .And rest pos) σ₁ Q) ∧ (b = false → Q false σ₁))) : TV c d fx (.BoolOp .And (e :: rest) pos) σ Q :=
  TV.and1 (h.mono fun b σ₁ q => by
    obtain ⟨q1, q2⟩ := q
    cases b
    · exact q2 rfl
    · exact q1 rfl)
theorem EV.ifB {test body orelse : Expr} {pos : Pos} (h : TV c d fx test σ (IfI (fun σ₁ => EV c d fx (eval body fx.env) σ₁ Q) (fun σ₁ => EV c d fx (eval orelse fx.env) σ₁ Q))) : EV c d fx (eval (.IfExp test body orelse pos) fx.env) σ Q :=
  EV.ifexp (h.mono fun b σ₁ q => by
    cases b
    · exact q.2 rfl
    · exact q.1 rfl)
end
end Mine
namespace Mine
open PySem PySem.W PyProof.Rows PySem.SeqAt
section
variable {c : Cx} {d k : Nat} {fx : Fx} {ρ ρ' ρ'' : List Addr} {σ σ' : St} {h h' h'' : Heap} {s s' s₁ : Shared} {A : Around} {Q : V → St → Prop} {X : Fl → St → Prop}
  {loc loc' : List (Str × V)} {hp hp' : List O}

noncomputable def Src (c : Cx) (fx : Fx) (v : V) (σ : St) (n : Nat) (item : Nat → V) (Cn : St → Prop) : Prop :=
  ∀ ρ (s : Shared) A x (R : Value → Shared → Prop) (E : Value → Shared → Prop), A.handled = none → RelS c fx ρ σ s → VR ρ s.heap v x →
    (∀ it J h' tk, (∀ b o, s.heap.get? b = some o → h'.get? b = some o) → s.heap.objs.size ≤ h'.objs.size → s.heap.get? it = none → c.H₀.get? it = none → It c ρ it n item Cn J → J 0 h' → R (.ref it) { s with heap := h', toks := tk }) → wpAny c.M A (pyIter x) R E s
theorem Src.list {l : Nat} {vs : List V} (hl : σ.hp[l]? = some (.list vs)) : Src c fx (.ref l) σ vs.length (fun i => vs.getD i .none) (fun σ => σ.hp[l]? = some (.list vs)) := fun ρ s A x R E hh r vx q => by
  cases vx using VR.refC with
  | ref ha =>
    rename_i a
    obtain ⟨x, h1, xs, n, rfl, h2⟩ := r.1.obj l a _ ha hl
    refine wpAny_pyIter_list ⟨_, h1, rfl, n, rfl⟩ ?_
    exact q _ _ _ s.toks (fun _ _ e => Heap.get?_push_of_some _ e) (by rw [Heap.size_push]; exact Nat.le_succ _) (get_none_of_lt (Nat.le_refl _)) (r.1.size₀ (Nat.le_refl _)) (It.list ha) ⟨_, Heap.get?_push_size _ rfl, rfl, rfl⟩
theorem Src.base {a : Addr} {xs : List Value} {vs : List V} (hl : c.H₀.IsList a xs.toArray) (hv : ∀ ρ h, VRs ρ h vs xs) : Src c fx (.top a) σ vs.length (fun i => vs.getD i .none) (fun _ => True) := fun ρ s A x R E hh r vx q => by
  cases vx using VR.topC with
  | top =>
    have hl' : s.heap.IsList a xs.toArray := let ⟨o, e, y⟩ := hl; ⟨o, r.1.keep _ _ e, y⟩
    refine wpAny_pyIter_list hl' ?_
    exact q _ _ _ s.toks (fun _ _ e => Heap.get?_push_of_some _ e) (by rw [Heap.size_push]; exact Nat.le_succ _) (get_none_of_lt (Nat.le_refl _)) (r.1.size₀ (Nat.le_refl _)) (It.topList hl hv) ⟨_, Heap.get?_push_size _ rfl, rfl, rfl⟩

theorem XV.forS {target iter : Expr} {body : List Stmt} {pos : Pos} (h : EV c d fx (eval iter fx.env) σ (fun v σ₁ => ∃ n item Cn, Src c fx v σ₁ n item Cn ∧ ∃ I : Nat → St → Prop, I 0 σ₁ ∧ (∀ i σ, I i σ → Cn σ) ∧
      (∀ ρ₀, ρ₀.length = σ₁.hp.length → ∀ i σ, i < n → I i σ → OU1 c d { fx with ρ₀ := ρ₀ } (fun y => PySem.assign target fx.env y) (item i) σ (fun _ σ₁ => XV c d { fx with ρ₀ := ρ₀ } (execs body fx.env) σ₁ (forX I i X))) ∧
      (∀ σ, I n σ → X .next σ)))
    (hs : ∀ x, foldedSetIterable iter fx.env x = pure x := by intro _; rfl) (ht : ∀ s : Shared, ∀ it, ∀ v, letOwnedTupleGo target (.ref it) v = pure () := by intros; rfl) : XV c d fx (exec (.For target iter body [] pos) fx.env) σ X := fun ρ s A R r => by
  refine wpAny_For (wpAny_mono (h ρ s A R r) ?_ fun _ _ e => e) hs
  rintro x s₁ ⟨ρ₁, v, σ₁, p₁, e₁, r₁, v₁, n, item, Cn, hsrc, I, i0, iC, turn, fin⟩
  refine hsrc ρ₁ s₁ A x _ _ R.handled r₁ v₁ fun it J h' tk hk hsz hnew h0 T hJ => ?_
  have r₂ : RelS c fx ρ₁ σ₁ { s₁ with heap := h', toks := tk } := ⟨r₁.1.ext hk, r₁.2⟩
  refine codeAny_mono (forIt (E := noE) (s₀ := s₁) R T r₂ (.ext hk) hnew (fun m => ?_) h0 (fun e => ?_) hJ I i0 iC (turn ρ₁ r₁.1.len) fin (ht s _)) ?_
  · obtain ⟨_, _, x, _, _, hx, _⟩ := r₁.1.toHRel.mem m
    rw [hnew] at hx; cases hx
  · obtain ⟨o, ho⟩ := r₁.1.hasL
    rw [← e, hnew] at ho; cases ho
  · rintro (e | f) s' z
    · exact z
    · exact z.trans e₁ r₁
end
end Mine
namespace Mine
open PySem PySem.W PyProof.Rows
section
variable {c : Cx} {d k : Nat} {fx : Fx} {ρ ρ' ρ'' : List Addr} {σ σ' : St} {h h' h'' : Heap} {s s' s₁ : Shared} {A : Around} {Q : V → St → Prop} {X : Fl → St → Prop}
  {loc loc' : List (Str × V)} {hp hp' : List O}
inductive ExcInitI (c : Cx) (Q : V → St → Prop) (vs : List V) (σ₂ : St) : Prop
  | mk (i : Nat) (C : Addr) (dn : Option Nat) (a as : List V) (b : Bool) (h0 : vs = .ref i :: as) (h1 : σ₂.hp[i]? = some (.exc C dn (.tup a) b)) (h2 : ExcK c.K C) (h3 : as.length ≤ 100)
    (q : Q .none ⟨σ₂.loc, σ₂.hp.set i (.exc C dn (.tup as) b)⟩) : ExcInitI c Q vs σ₂
theorem EV.excInit {np apos pos : Pos} {args : List Expr} {pl : Sem Bool} (e : nsIn c.K mainGlobals "Exception" = some none)
    (h : EVs c d fx (spliced (backTo pos (starEach args fx.env))) σ (ExcInitI c Q))
    (hpl : plainArgs args = true := by rfl) (he : MethForm fx (.Name "Exception" np) "__init__" apos args pos pl := by rfl) (hx : fx.env.kindOf "Exception" = some .globalImplicit := by rfl) :
    EV c d fx (eval (.Call (.Attribute (.Name "Exception" np) "__init__" apos) args [] pos) fx.env) σ Q := fun ρ s A R r => by
  have hn : EV c d fx (eval (.Name "Exception" np) fx.env) σ (fun v σ₁ => v = .ty "Exception" ∧ σ₁ = σ) := EV.gbi ⟨rfl, rfl⟩ e PyProof.Rows.Boot.«Exception» (fun _ _ => .ty _) (by decide) hx
  refine MethodCall_ (wpAny_mono (hn ρ s A R r) ?_ fun _ _ e => e) he
  rintro x s₁ ⟨ρ₁, u, σ₁, p₁, e₁, r₁, v₁, rfl, rfl⟩
  cases v₁
  refine excInit_get ?_
  have r₁' : RelS c fx ρ₁ σ₁ { s₁ with toks := s₁.toks + 1 } := r₁
  refine wpAny_mono (callWithV (P := fun _ => True) R r₁' hpl (fun h _ => ⟨.machine, .inr (.inl rfl), Looks.of_pure rfl⟩) h (fun _ _ _ _ _ _ _ _ => trivial) fun ρ' s' vs xs σ' p e r' va hf => ?_) (fun _ _ z => (z.sh (s₀ := s₁) rfl).trans p₁ e₁ r₁) fun _ _ z => z
  obtain ⟨i, C, dn, a, as, b, rfl, h1, h2, h3, q⟩ := hf
  obtain ⟨loc', hp'⟩ := σ'
  cases va using VRs.consC with
  | cons v1 v2 =>
    cases v1 using VR.refC with
    | ref hx =>
      rename_i xs x'
      obtain ⟨x'', ox, g1, g2, dd, x0, f1, f2, f3, f4, f5, rfl, g3, g4, g5⟩ := r'.1.toHRel.at h1
      have ex := Option.some.inj (hx.symm.trans g1)
      subst ex
      cases g3 using VR.tupC with
      | tup ea ra =>
        refine wpAny_call (excInit h2 (r'.1.ok.k.keeps r'.1.keep) g2 rfl rfl rfl (by rw [← v2.length, sizeLine_eq]; omega) ?_)
        have rp := r'.1.push (tupObj xs.toArray 0)
        have gp := Heap.get?_push_of_some (tupObj xs.toArray 0) g2
        have hs : Keep [x'] (s'.heap.push (tupObj xs.toArray 0)) ((s'.heap.push (tupObj xs.toArray 0)).update x' (Obj.mapFields (·.setIfInBounds 0 (.ref s'.heap.objs.size)))) := .of_sameBut (Heap.SameBut.update ..)
        have hg : ((s'.heap.push (tupObj xs.toArray 0)).update x' (Obj.mapFields (·.setIfInBounds 0 (.ref s'.heap.objs.size)))).get? x' = some (excObj C dd #[.ref s'.heap.objs.size, f1, f2, f3, f4, f5]) := Heap.get?_update_self _ gp rfl
        have km : ImmKeep (s'.heap.push (tupObj xs.toArray 0)) ((s'.heap.push (tupObj xs.toArray 0)).update x' (Obj.mapFields (·.setIfInBounds 0 (.ref s'.heap.objs.size)))) := rp.toHRel.immKeep (hs.sub fun b m => by rw [List.mem_singleton] at m; subst m; exact mem_of_get? hx)
        refine ⟨ρ', .none, _, List.prefix_refl _, (Ext.push _).trans (.upd hx hs) rp.hasL, ⟨rp.upd (o := .exc C dn (.tup as) b) hx hs hg ⟨dd, _, _, _, _, _, _, rfl, ?_, g4, g5⟩, r'.2⟩, .none, q⟩
        exact .tup (km _ _ (.inl ⟨_, _, rfl⟩) (Heap.get?_push_size _ rfl)) ((v2.mono (List.prefix_refl _) fun b o _ e => Heap.get?_push_of_some _ e).mono (List.prefix_refl _) km)
end
end Mine
namespace Mine
open PySem PySem.W PyProof.Rows
noncomputable def txtOf (x : String) : List Nat := (Str.ofString x).cps.toList
section
variable {c : Cx} {d k : Nat} {fx : Fx} {ρ ρ' ρ'' : List Addr} {σ σ' : St} {h h' h'' : Heap} {s s' s₁ : Shared} {A : Around} {Q : V → St → Prop} {X : Fl → St → Prop}
  {loc loc' : List (Str × V)} {hp hp' : List O}
noncomputable def FmtV (c : Cx) (d : Nat) (fx : Fx) (v : V) (σ : St) (Q : V → St → Prop) : Prop :=
  ∀ ρ s A x, Room d A → RelS c fx ρ σ s → VR ρ s.heap v x → wpAny c.M A (convS x) (fun r s₂ => wpAny c.M A (formatField r Str.empty) (Post c fx ρ s Q) noE s₂) noE s
theorem EV.fmtS {value : Expr} {pos : Pos} (h : EV c d fx (eval value fx.env) σ (fun v σ₁ => FmtV c d fx v σ₁ Q)) : EV c d fx (eval (.FormattedValue value 115 none pos) fx.env) σ Q := fun ρ s A R r => by
  refine wpAny_FormattedValue_s (wpAny_mono (h ρ s A R r) ?_ fun _ _ e => e)
  rintro x s₁ ⟨ρ₁, v, σ₁, p₁, e₁, r₁, v₁, h₁⟩
  have w := h₁ ρ₁ s₁ A x R r₁ v₁
  exact wpAny_mono w (fun _ _ z => wpAny_mono z (fun _ _ z => z.trans p₁ e₁ r₁) fun _ _ z => z) fun _ _ z => z
theorem FmtV.fmtStr {l : List Nat} (hl : l.length ≤ sizeLine) (q : Q (.str l) σ) : FmtV c d fx (.str l) σ Q := fun ρ s A x R r v => by
  cases v using VR.strC with
  | str t e =>
    rename_i y
    have hy : y.length ≤ sizeLine := by rw [← e] at hl; simpa [Str.length] using hl
    exact SB.convS_str (fun t' k => SB.field_str (fun t'' k' => Post.same r rfl rfl rfl (.str _ e) q) hy) hy
theorem FmtV.fmtInt {i : Int} (hi : i.natAbs.log2 < 1920) (q : Q (.str (txtOf (toString i))) σ) : FmtV c d fx (.int i) σ Q := fun ρ s A x R r v => by
  cases v using VR.intC with
  | int t => exact SB.convS_int hi (SB.field_str (fun t'' k' => Post.same r rfl rfl rfl (.str _ rfl) q) (int_text_fits hi))
theorem FmtV.fmtNone (q : Q (.str (txtOf "None")) σ) : FmtV c d fx .none σ Q := fun ρ s A x R r v => by
  cases v using VR.noneC with
  | none => exact SB.convS_none (SB.field_str (fun t'' k' => Post.same r rfl rfl rfl (.str _ rfl) q) (by decide))
theorem FmtV.fmtBool {b : Bool} (q : Q (.str (txtOf (if b then "True" else "False"))) σ) : FmtV c d fx (.bool b) σ Q := fun ρ s A x R r v => by
  cases v using VR.boolC with
  | bool => cases b <;> exact SB.convS_bool (SB.field_str (fun t'' k' => Post.same r rfl rfl rfl (.str _ rfl) q) (by decide))
inductive StrI (Q : V → St → Prop) (loc : List (Str × V)) (v : V) (hp' : List O) : Prop
  | mk (l : List Nat) (e : v = .str l) (hl : l.length ≤ sizeLine) (q : Q (.str l) ⟨loc, hp'⟩) : StrI Q loc v hp'
theorem FmtV.fmtExc {i j : Nat} {C f : Addr} {a : V} {b : Bool} {kvs : List (Str × V)} (k : Nat) (h1 : σ.hp[i]? = some (.exc C (some j) a b)) (h2 : σ.hp[j]? = some (.ns kvs)) (h3 : findIn c.K (.ref C) "__str__" = some (some (.ref f))) (h4 : isFn c.K (.ref f) = true)
    (h : FV c k (.top f) [.ref i] σ.hp (StrI Q σ.loc)) (hk : k ≤ d) : FmtV c d fx (.ref i) σ Q := fun ρ s A x R r v => by
  cases v using VR.refC with
  | ref hx =>
    rename_i x'
    obtain ⟨x'', dx, t0, vs, es, n, g1, g2, g3, g4, g5, I, g6, g7⟩ := r.1.toHRel.excD h1 h2
    have ex := Option.some.inj (hx.symm.trans g1)
    subst ex
    show wpAny _ _ (pyStrObj (.ref x')) _ _ _
    refine kfo_str R.c (r.1.ok.k.keeps r.1.keep) I h3 h4 ?_
    refine wpAny_mono (callFV (Q := fun v σ' => ∃ l, v = .str l ∧ l.length ≤ sizeLine ∧ Q (.str l) σ') R hk r (.top f) (.cons (.ref hx) .nil) (h.mono fun v hp' ⟨l, e, hl, q⟩ => ⟨l, e, hl, q⟩)) ?_ fun _ _ z => z
    rintro y s₁ ⟨ρ₁, _, σ₁, p₁, e₁, r₁, v₁, l, rfl, hl, q⟩
    cases v₁ using VR.strC with
    | str t e =>
      rename_i y
      have hy : y.length ≤ sizeLine := by rw [← e] at hl; simpa [Str.length] using hl
      exact SB.field_str (fun t'' k' => (Post.same (s := s₁) (s' := { s₁ with toks := k' }) r₁ rfl rfl rfl (.str t'' e) q).trans p₁ e₁ r₁) hy
theorem OVs.strE {i j : Nat} {C f : Addr} {a : V} {b : Bool} {kvs : List (Str × V)} (k : Nat) (h1 : σ.hp[i]? = some (.exc C (some j) a b)) (h2 : σ.hp[j]? = some (.ns kvs)) (h3 : findIn c.K (.ref C) "__str__" = some (some (.ref f))) (h4 : isFn c.K (.ref f) = true)
    (h : FV c k (.top f) [.ref i] σ.hp (StrI Q σ.loc)) (hk : k + 2 ≤ d) : OVs c d fx (fun xs => PySem.call (.type "str") xs) [.ref i] σ Q := fun ρ s A xs R r va => by
  cases va using VRs.consC with
  | cons v1 v2 =>
    cases v2 using VRs.nilC
    cases v1 using VR.refC with
    | ref hx =>
      rename_i x'
      obtain ⟨x'', dx, t0, vs, es, n, g1, g2, g3, g4, g5, I, g6, g7⟩ := r.1.toHRel.excD h1 h2
      have ex := Option.some.inj (hx.symm.trans g1)
      subst ex
      have R2 : Room k A.in1.in1 := ((R.le hk).in1).in1
      refine kso_call R2.c (r.1.ok.k.keeps r.1.keep) I h3 h4 ?_
      refine wpAny_mono (callFV (d := k) (Q := fun v σ' => ∃ l, v = .str l ∧ l.length ≤ sizeLine ∧ Q (.str l) σ') R2 (Nat.le_refl _) r (.top f) (.cons (.ref hx) .nil) (h.mono fun v hp' ⟨l, e, hl, q⟩ => ⟨l, e, hl, q⟩)) ?_ fun _ _ z => z
      rintro y s₁ ⟨ρ₁, _, σ₁, p₁, e₁, r₁, v₁, l, rfl, hl, q⟩
      cases v₁ using VR.strC with
      | str t e => exact ⟨ρ₁, _, σ₁, p₁, e₁, r₁, .str t e, q⟩
inductive PartI (c : Cx) (d : Nat) (fx : Fx) (acc : List Nat) (K : List Nat → St → Prop) (v : V) (σ : St) : Prop
  | mk (l : List Nat) (e : v = .str l) (hl : (acc ++ l).length ≤ sizeLine) (q : K (acc ++ l) σ) : PartI c d fx acc K v σ
noncomputable def EJ (c : Cx) (d : Nat) (fx : Fx) : List (Sem Value) → List Nat → St → (V → St → Prop) → Prop
  | [], acc, σ, Q => Q (.str acc) σ
  | x :: rest, acc, σ, Q => EV c d fx x σ (PartI c d fx acc fun acc' σ' => EJ c d fx rest acc' σ' Q)
theorem joins_of {R : Value → Shared → Prop} (RA : Room d A) : ∀ (parts : List (Sem Value)) (acc : Str) (l : List Nat) (σ : St) (ρ : List Addr) (s : Shared), acc.cps.toList = l → l.length ≤ sizeLine → RelS c fx ρ σ s → EJ c d fx parts l σ Q →
    (∀ x s', Post c fx ρ s Q x s' → R x s') → Joins c.M A noE parts acc (fun out s₁ => out.length ≤ sizeLine ∧ R (.str out s₁.toks) { s₁ with toks := s₁.toks + 1 }) s
  | [], acc, l, σ, ρ, s, e, hl, r, q, k => ⟨by rw [← e] at hl; simpa [Str.length] using hl, k _ _ (Post.same r rfl rfl rfl (.str _ e) q)⟩
  | x :: rest, acc, l, σ, ρ, s, e, hl, r, q, k => by
    refine wpAny_mono (q ρ s A RA r) ?_ fun _ _ z => z
    rintro y s₁ ⟨ρ₁, _, σ₁, p₁, e₁, r₁, v₁, l', rfl, hl', q'⟩
    cases v₁ using VR.strC with
    | str t e' =>
      rename_i y
      have e2 : (acc ++ y).cps.toList = l ++ l' := by rw [← e, ← e']; show (acc.cps ++ y.cps).toList = _; simp
      refine ⟨y, t, rfl, by rw [← e2] at hl'; simpa [Str.length] using hl', ?_⟩
      exact joins_of RA rest (acc ++ y) (l ++ l') σ₁ ρ₁ s₁ e2 hl' r₁ q' fun x s' z => k x s' (z.trans p₁ e₁ r₁)
theorem EV.joined {v₁ v₂ : Expr} {rest : List Expr} {pos : Pos} (h : EJ c d fx (evalEach (v₁ :: v₂ :: rest) fx.env) [] σ Q) : EV c d fx (eval (.JoinedStr (v₁ :: v₂ :: rest) pos) fx.env) σ Q := fun ρ s A R r =>
  wpAny_JoinedStr (joins_of R _ Str.empty [] σ ρ s rfl (by simp) r h fun x s' z => z)
theorem EJ.cons {e : Expr} {rest : List Expr} {acc : List Nat} (h : EV c d fx (eval e fx.env) σ (PartI c d fx acc fun acc' σ' => EJ c d fx (evalEach rest fx.env) acc' σ' Q)) : EJ c d fx (evalEach (e :: rest) fx.env) acc σ Q := h
theorem EJ.nil {acc : List Nat} (h : Q (.str acc) σ) : EJ c d fx (evalEach [] fx.env) acc σ Q := h
end
end Mine
namespace Mine
open PySem PySem.W PyProof.Rows
noncomputable def FVk (c : Cx) (k : Nat) (f : V) (vs : List V) (kn : List Str) (kv : List V) (hp : List O) (Q : V → List O → Prop) : Prop :=
  ∀ ρ s A x xs ys, Room k A → c.Ok → HRelS c ρ hp s → VR ρ s.heap f x → VRs ρ s.heap vs xs → VRs ρ s.heap kv ys → codeAny c.M A (.call x ⟨xs, kn.zip ys⟩) (FPost c ρ s Q) s
section
variable {c : Cx} {d k : Nat} {fx : Fx} {ρ ρ' ρ'' : List Addr} {σ σ' : St} {h h' h'' : Heap} {s s' s₁ : Shared} {A : Around} {Q : V → St → Prop} {X : Fl → St → Prop}
  {loc loc' : List (Str × V)} {hp hp' : List O}
theorem FVk.fv {f : V} {vs : List V} {Q : V → List O → Prop} (h : FVk c k f vs [] [] hp Q) : FV c k f vs hp Q := fun ρ s A x xs R ok r vf va => h ρ s A x xs [] R ok r vf va .nil
theorem Room.makeK (r : Room (k + 1) A) (C : Addr) (vals : List Value) (kw : List (Str × Value)) : Room k (A.under (.builtin "type.__call__" ⟨.ref C :: vals, kw⟩)) := by
  refine ⟨r.1, ?_, ?_⟩
  · have := r.2; show A.depth + 1 + _ < _; omega
  · have := r.3; show A.units + 1 + _ < _; omega
theorem FVk.newE {C fI : Addr} {vs kv : List V} {kn : List Str} {Q : V → List O → Prop} (hm : makesExcIn c.K C = true) (hi : findIn c.K (.ref C) "__init__" = some (some (.ref fI))) (hf : typeIn c.K (.ref fI) = some (.type "function")) (hl : vs.length ≤ 100)
    (h : FVk c k (.top fI) (.ref hp.length :: vs) kn kv (hp ++ [.exc C none (.tup vs) false]) (fun v hp' => v = .none ∧ Q (.ref hp.length) hp')) : FVk c (k + 1) (.top C) vs kn kv hp Q := fun ρ s A x xs ys R ok r vf va vk => by
  cases vf using VR.topC
  have X := ok.k.keeps r.1.keep
  obtain ⟨hh, g, dd, t, os⟩ := s
  refine excMake (makesExc_of X hm) (looks_findIn X hi) (fun self => bind_fn X self hf) (by rw [← va.length, sizeLine_eq]; omega) ?_
  have r1 : HRel c ρ hp (hh.push (tupObj xs.toArray 0)) := r.1.push_ _
  have hr : OR (ρ ++ [(hh.push (tupObj xs.toArray 0)).objs.size]) ((hh.push (tupObj xs.toArray 0)).push (excObj C none #[.ref hh.objs.size, .none, .none, .none, .bool false, .none])) (.exc C none (.tup vs) false) (excObj C none #[.ref hh.objs.size, .none, .none, .none, .bool false, .none]) :=
    ⟨none, _, _, _, _, _, _, rfl, .tup (Heap.get?_push_of_some _ (Heap.get?_push_size _ rfl)) (va.mono (List.prefix_append ..) fun b o _ e => Heap.get?_push_of_some _ (Heap.get?_push_of_some _ e)), trivial, fun _ => ⟨rfl, rfl, rfl, rfl, rfl⟩⟩
  have r2 := r1.alloc rfl hr
  rw [Heap.size_push] at r2
  have kk : ∀ b o, hh.get? b = some o → ((hh.push (tupObj xs.toArray 0)).push (excObj C none #[.ref hh.objs.size, .none, .none, .none, .bool false, .none])).get? b = some o := fun b o e => Heap.get?_push_of_some _ (Heap.get?_push_of_some _ e)
  have pr : ρ <+: ρ ++ [hh.objs.size + 1] := List.prefix_append ..
  have hw := h (ρ ++ [hh.objs.size + 1]) ⟨(hh.push (tupObj xs.toArray 0)).push (excObj C none #[.ref hh.objs.size, .none, .none, .none, .bool false, .none]), g, dd, t, os⟩ _ (.ref fI) (.ref (hh.objs.size + 1) :: xs) ys (R.makeK C xs (kn.zip ys)) ok ⟨r2, r.2⟩ (.top fI)
    (.cons (.ref (by rw [← r.1.len]; simp)) (va.mono pr fun b o _ e => kk b o e)) (vk.mono pr fun b o _ e => kk b o e)
  refine codeAny_mono hw ?_
  rintro _ s' ⟨ρ', v, hp', y, rfl, e', r', v', rfl, q⟩
  cases v' using VR.noneC
  refine ⟨rfl, ρ', .ref hp.length, hp', _, rfl, ⟨pr.trans e'.pre, fun a m => ?_, fun b o n e => e'.keep b o (fun m => ?_) (kk b o e)⟩, r', .ref (pre_get e'.pre (by rw [← r.1.len]; simp)), q⟩
  · rcases e'.new a m with m | z
    · rcases List.mem_append.mp m with m | m
      · exact .inl m
      · right
        refine get_none_of_lt ?_
        simp at m
        rw [m]; exact Nat.le_succ _
    · right
      cases y : hh.get? a with
      | none => rfl
      | some o => have := kk _ _ y; rw [show ((hh.push (tupObj xs.toArray 0)).push (excObj C none #[.ref hh.objs.size, .none, .none, .none, .bool false, .none])).get? a = none from z] at this; cases this
  · rcases List.mem_append.mp m with m | m
    · exact n m
    · have lt : b < hh.objs.size := Heap.lt_size e
      simp at m
      have lt' : hh.objs.size + 1 < hh.objs.size := m ▸ lt
      omega

theorem FVk.defD {a T : Addr} {name qual : Str} {params : Arguments} {body : List Stmt} {scope : Scope} {kV doc pm cd ct oc toc : Value} {an od tod : Option Addr} {osl tsl : Array (Option Value)} {items : Array Value} {tn : Nat} {ns kn : List Str} {vs kv us : List V} {Q : V → List O → Prop}
    (sel : List Value → List Value → List Value)
    (hK : c.K.lookup a = some ⟨oc, od, .func (fnX name qual params body scope [] (.ref T) kV doc pm an cd ct), osl⟩) (hT : c.K.lookup T = some ⟨toc, tod, .seq items tn, tsl⟩) (hcd : codeIn c.K cd qual = true)
    (hb : ∀ xs ys : List Value, vs.length = xs.length → kv.length = ys.length → ∃ kk, bindArgs (fnX name qual params body scope [] (.ref T) kV doc pm an cd ct) ⟨xs, kn.zip ys⟩ = seqItems? (.ref T) >>= kk ∧ kk (some items) = pure (ns.zip (sel xs ys)))
    (hu : ∀ ρ h xs ys, VRs ρ h vs xs → VRs ρ h kv ys → VRs ρ h us (sel xs ys)) (hl : ns.length = us.length) (hnd : ns.Nodup)
    (hloc : ∀ n ∈ ns, scope.names.lookup n = some .local) (hcell : ∀ x ∈ scope.names, x.2 ≠ .cell)
    (h : ∀ L ρ₀, ρ₀.length = hp.length → XV c k ⟨envX qual scope L a cd [], [], ρ₀⟩ (execs body (envX qual scope L a cd [])) ⟨ns.zip us, hp⟩ (retQ Q))
    (hco : scope.isCoroutine = false := by rfl) (hgen : scope.isGenerator = false := by rfl) (hk : scope.kind = .function := by rfl) :
    FVk c (k + 1) (.top a) vs kn kv hp Q := fun ρ s A x xs ys R ok r vf va vk => by
  cases vf using VR.topC
  have X := ok.k.keeps r.1.keep
  have vu := hu _ _ _ _ va vk
  obtain ⟨kk, h1, h2⟩ := hb xs ys va.length vk.length
  generalize sel xs ys = bs at vu h2
  refine codeAny_call_def (fd := fnX name qual params body scope [] (.ref T) kV doc pm an cd ct) R.limit (X _ _ hK) rfl (ok.t.nolimit.keeps r.1.keep) (codeRec_of X hcd) rfl (.of_defaults rfl (X _ _ hT) rfl h1 h2) hcell (fun y hy => hloc _ ?_) (fun h₁ hn hk₁ => ?_) hco hgen hk
  · obtain ⟨n, v⟩ := y
    exact (List.of_mem_zip hy).1
  · have hw := h s.heap.objs.size ρ r.1.len ρ { s with heap := h₁, toks := s.toks + (ns.zip bs).length } (A.deeper (envX qual scope s.heap.objs.size a cd [])) (R.deeper _)
      ⟨Rel.enter (env := envX qual scope s.heap.objs.size a cd []) ok r.1 rfl rfl rfl hk trivial vu hl hnd hn hk₁, r.2⟩
    refine wpAny_mono hw (fun fl s' z => ?_) fun _ _ z => z.elim
    have := FPost.of (env := envX qual scope s.heap.objs.size a cd []) (cl := []) hk₁ (get_none_of_lt (Nat.le_refl _)) z
    cases fl <;> exact this
end
end Mine
namespace Mine
open PySem PySem.W PyProof.Rows
theorem runs_toks {M : Model} {Γ : Ctx} {p : Pos} {t : Sem Fin} {fs : List Frame} {s s' : Shared} {e : End} (h : Runs M Γ p t fs s e s') : s.toks ≤ s'.toks := by
  induction h with
  | done => exact Nat.le_refl _
  | raise => exact Nat.le_refl _
  | yield => exact Nat.le_refl _
  | fresh _ ih => exact Nat.le_trans (Nat.le_succ _) ih
  | call _ _ ih1 ih2 => exact Nat.le_trans ih1 ih2
  | resumeFresh _ _ _ _ ih1 ih2 => exact Nat.le_trans ih1 ih2
  | resumeSuspended _ _ _ _ ih1 ih2 => exact Nat.le_trans ih1 ih2
  | segRet _ _ ih1 ih2 => exact Nat.le_trans ih1 ih2
  | segGen _ _ ih1 ih2 => exact Nat.le_trans ih1 ih2
  | segSuspGen _ _ _ _ ih1 ih2 => exact Nat.le_trans ih1 ih2
  | _ => assumption
theorem wakes_toks {M : Model} {Γ : Ctx} {p : Pos} {g : Nat} {r : Resume} {s s' : Shared} {res : GenResult} (h : Wakes M Γ p g r s res s') : s.toks ≤ s'.toks := by
  unfold Wakes at h
  cases hg : s.gens[g]? with
  | none => rw [hg] at h; exact h.elim
  | some gs =>
    rw [hg] at h
    cases gs with
    | fresh c =>
      cases r with
      | send v =>
        cases v with
        | none => obtain ⟨e₁, s₁, h1, _, _, rfl⟩ := h; have := runs_toks h1; exact this
        | _ => obtain ⟨_, rfl⟩ := h; exact Nat.le_refl _
      | throw x => obtain ⟨_, rfl⟩ := h; exact Nat.le_refl _
    | suspended k₀ a c₀ p₀ fs b => obtain ⟨e₁, s₁, h1, _, _, rfl⟩ := h; have := runs_toks h1; exact this
    | running => obtain ⟨_, rfl⟩ := h; exact Nat.le_refl _
    | finished => obtain ⟨_, rfl⟩ := h; exact Nat.le_refl _
theorem wp_toks {α : Type} {M : Model} {Γ : Ctx} (t : Sem α) {Q : α → Pos → Shared → Prop} {E : Value → Pos → Shared → Prop} : ∀ (p : Pos) (s : Shared) (n : Nat), n ≤ s.toks → Sem.wp M Γ t Q E p s →
    Sem.wp M Γ t (fun a p' s' => Q a p' s' ∧ n ≤ s'.toks) (fun e p' s' => E e p' s' ∧ n ≤ s'.toks) p s := by
  induction t with
  | pure x => exact fun p s n hn h => ⟨h, hn⟩
  | raise v => exact fun p s n hn h => ⟨h, hn⟩
  | unsupported | finish | yield | fork | await | register => exact fun p s n hn h => h
  | rule _ k ih | «at» _ k ih | alloc _ k ih | loadIfAlive _ k ih | point _ k ih | ask k ih | os _ _ k ih | handled _ k ih | newGen _ k ih | stack k ih | thread k ih => exact fun p s n hn h => ih _ _ _ n hn h
  | fresh k ih => exact fun p s n hn h => ih _ _ _ n (Nat.le_succ_of_le hn) h
  | load a _ k ih | genState a k ih => exact fun p s n hn ⟨o, ho, h⟩ => ⟨o, ho, ih _ _ _ n hn h⟩
  | update a _ f k ih | choose _ _ k ih => exact fun p s n hn ⟨ha, h⟩ => ⟨ha, ih _ _ _ n hn h⟩
  | call c h g l k ih => exact fun p s n hn ⟨r, s', hr, h⟩ => ⟨r, s', hr, ih _ _ _ n (Nat.le_trans hn (runs_toks hr)) h⟩
  | resume g r l k ih => exact fun p s n hn ⟨res, s', hw, h⟩ => ⟨res, s', hw, ih _ _ _ n (Nat.le_trans hn (wakes_toks hw)) h⟩
theorem wpAny_toks {α : Type} {M : Model} {A : Around} {t : Sem α} {Q : α → Shared → Prop} {E : Value → Shared → Prop} {s : Shared} {n : Nat} (hn : n ≤ s.toks) (h : wpAny M A t Q E s) : wpAny M A t (fun a s' => Q a s' ∧ n ≤ s'.toks) E s :=
  fun Γ p hΓ => Sem.wp_mono M Γ t (fun _ _ _ z => z) (fun _ _ _ z => z.1) p s (wp_toks t p s n hn (h Γ p hΓ))
end Mine
namespace Mine
open PySem PySem.W PyProof.Rows PySem.SeqAt
section
variable {c : Cx} {d k : Nat} {fx : Fx} {ρ ρ' ρ'' : List Addr} {σ σ' : St} {h h' h'' : Heap} {s s' s₁ : Shared} {A : Around} {Q : V → St → Prop} {X : Fl → St → Prop}
  {loc loc' : List (Str × V)} {hp hp' : List O}

theorem Rel.forget (r : Rel c fx ρ ⟨loc, hp⟩ h) : Rel c fx ρ ⟨[], hp⟩ h :=
  { toHRel := r.toHRel, ok := r.ok, loc := let ⟨m, hm, _⟩ := r.loc; ⟨m, hm, fun _ _ e => by cases e⟩, lfresh := r.lfresh, lapart := r.lapart, pre := r.pre, glob := r.glob, bltn := r.bltn, kind := r.kind, cells := r.cells }
noncomputable def EVn (n0 : Nat) (c : Cx) (d : Nat) (fx : Fx) (t : Sem Value) (σ : St) (Q : V → St → Prop) : Prop :=
  ∀ ρ s A, Room d A → RelS c fx ρ σ s → n0 ≤ s.toks → wpAny c.M A t (Post c fx ρ s Q) noE s
noncomputable def EVq (n0 : Nat) (c : Cx) (d : Nat) (fx : Fx) (t : Sem Value) (σ : St) (Q : V → St → Prop) : Prop := match n0 with
  | 0 => EV c d fx t σ Q
  | n + 1 => EVn (n + 1) c d fx t σ Q
theorem EVq.run {n0 : Nat} {t : Sem Value} (h : EVq n0 c d fx t σ Q) (R : Room d A) (r : RelS c fx ρ σ s) (hn : n0 ≤ s.toks) : wpAny c.M A t (Post c fx ρ s Q) noE s := by
  cases n0 with
  | zero => exact h ρ s A R r
  | succ n => exact h ρ s A R r hn
theorem wpT {α : Type} {M : Model} {t : Sem α} {Q : α → Shared → Prop} {E : Value → Shared → Prop} {n : Nat} (hn : n ≤ s.toks) (h : wpAny M A t (fun a s' => n ≤ s'.toks → Q a s') E s) : wpAny M A t Q E s :=
  wpAny_mono (wpAny_toks hn h) (fun _ _ z => z.1 z.2) fun _ _ e => e
noncomputable def CTn (n0 : Nat) (c : Cx) (d : Nat) (fx : Fx) (ifs : List Expr) (elt : Expr) (σ : St) (P : Option V → St → Prop) : Prop := match ifs with
  | [] => EVq n0 c d fx (eval elt fx.env) σ (fun v σ₁ => P (some v) σ₁)
  | [t] => TV c d fx t σ (fun b σ₁ => (b = true → EVq n0 c d fx (eval elt fx.env) σ₁ (fun v σ₂ => P (some v) σ₂)) ∧ (b = false → P none σ₁))
  | _ => False
noncomputable abbrev CT := CTn 0
noncomputable abbrev CTP (I : Nat → List V → List O → Prop) (a i : Nat) (acc : List V) : Option V → St → Prop := fun ov σ₂ => match ov with
  | some v => σ₂.hp[a]? = some (.list acc) ∧ acc.length < 2 ^ 20 ∧ I (i + 1) (acc ++ [v]) (σ₂.hp.set a (.list (acc ++ [v])))
  | none => I (i + 1) acc σ₂.hp
noncomputable def CompOkN (n0 : Nat) (c : Cx) (d : Nat) (fx : Fx) (x : Str) (ifs : List Expr) (elt : Expr) (scope : Scope) (cl' : List (Str × Nat)) (n : Nat) (item : Nat → V) (Cn : St → Prop) (I : Nat → List V → List O → Prop) (a : Nat) : Prop :=
  (∀ i acc hp, I i acc hp → hp[a]? = some (.list acc) ∧ ∀ loc, Cn ⟨loc, hp⟩) ∧
  (∀ C clos ρ₀, ∀ i acc hp, i < n → I i acc hp → CTn n0 c d ⟨compEnvC scope clos C fx.env, cl', ρ₀⟩ ifs elt ⟨[(x, item i)], hp⟩ (CTP I a i acc))

noncomputable abbrev CompOk := CompOkN 0
noncomputable def CompOkT (n0 : Nat) (c : Cx) (d : Nat) (fx : Fx) (tgt : Expr) (ifs : List Expr) (elt : Expr) (scope : Scope) (cl' : List (Str × Nat)) (n : Nat) (item : Nat → V) (Cn : St → Prop) (I : Nat → List V → List O → Prop) (a : Nat) : Prop :=
  (∀ i acc hp, I i acc hp → hp[a]? = some (.list acc) ∧ ∀ loc, Cn ⟨loc, hp⟩) ∧
  (∀ C clos ρ₀, ∀ i acc hp, i < n → I i acc hp → OU1 c d ⟨compEnvC scope clos C fx.env, cl', ρ₀⟩ (fun y => PySem.assign tgt (compEnvC scope clos C fx.env) y) (item i) ⟨[], hp⟩ (fun _ σ => CTn n0 c d ⟨compEnvC scope clos C fx.env, cl', ρ₀⟩ ifs elt σ (CTP I a i acc)))
noncomputable abbrev GoOk (c : Cx) (tgt : Expr) (it : Addr) (J : Nat → Heap → Prop) : Prop := ∀ (A : Around) i (s : Shared) x (R : Unit → Shared → Prop) (E : Value → Shared → Prop), J i s.heap → R () s → wpAny c.M A (letOwnedTupleGo tgt (.ref it) x) R E s
noncomputable def SrcT (c : Cx) (fx : Fx) (tgt : Expr) (v : V) (σ : St) (n : Nat) (item : Nat → V) (Cn : St → Prop) : Prop :=
  ∀ ρ (s : Shared) A x (R : Value → Shared → Prop) (E : Value → Shared → Prop), A.handled = none → RelS c fx ρ σ s → VR ρ s.heap v x →
    (∀ it J h' tk, (∀ b o, s.heap.get? b = some o → h'.get? b = some o) → s.heap.objs.size ≤ h'.objs.size → s.heap.get? it = none → c.H₀.get? it = none → It c ρ it n item Cn J → GoOk c tgt it J → J 0 h' → R (.ref it) { s with heap := h', toks := tk }) → wpAny c.M A (pyIter x) R E s
theorem Src.name {x : Str} {px : Pos} {v : V} {n : Nat} {item : Nat → V} {Cn : St → Prop} (S : Src c fx v σ n item Cn) : SrcT c fx (.Name x px) v σ n item Cn := fun ρ s A y R E hh r hv q =>
  S ρ s A y R E hh r hv fun it J h' tk a1 a2 a3 a4 a5 a6 => q it J h' tk a1 a2 a3 a4 a5 (fun A' i s' z R' E' _ hR => wpAny_pure hR) a6
theorem testsT {elt target iter : Expr} {ifs : List Expr} {scope : Scope} {pos : Pos} {it acc : Value} {env : Env} {prog : Program} {w : World} {RR : Result → Shared → Prop} (I : Nat → Shared → Prop)
    (turn : ∀ n s, I n s → wpAny (model prog w) A (pyNext it) (fun r s₁ => match r with
      | none => RR (.ok .next) s₁
      | some v => wpAny (model prog w) A (letOwnedTupleGo target it v) (fun _ s₁ => wpAny (model prog w) A (PySem.assign target env v) (fun _ s₂ =>
          wpAny (model prog w) A (forIn ifs true fun c r => if r = true then do let ok ← isTrue c env (eval c env); pure (ForInStep.yield ok) else pure (ForInStep.yield r)) (fun ok s₃ =>
            if ok = true then wpAny (model prog w) A (eval elt env) (fun x s₄ =>
              wpAny (model prog w) A (PySem.call (.builtin "list.append") [acc, x]) (fun _ s₅ => ∃ m, m < n ∧ I m s₅) (notedBy (model prog w) A env fun e s' => RR (.error e) s') s₄) (notedBy (model prog w) A env fun e s' => RR (.error e) s') s₃
            else ∃ m, m < n ∧ I m s₃) (notedBy (model prog w) A env fun e s' => RR (.error e) s') s₂) (notedBy (model prog w) A env fun e s' => RR (.error e) s') s₁) (notedBy (model prog w) A env fun e s' => RR (.error e) s') s₁) (notedBy (model prog w) A env fun e s' => RR (.error e) s') s)
    (n : Nat) (h : I n s) :
    codeAny (model prog w) A (.compLoop (.ListComp elt [⟨target, iter, ifs, 0⟩] scope pos) 0 it acc env) RR s := by
  refine codeAny_loop rfl I (fun n s hI => ?_) n h
  show wpAny _ A ((compTurn (.ListComp elt [⟨target, iter, ifs, 0⟩] scope pos) 0 it acc env).onRaise (fun x => do noteFrame x env; theTreesLotGoes x)) _ _ s
  refine wpAny_noted ?_
  rw [compTurn_list]
  refine wpAny_bind (wpAny_standAt (wpAny_bind (wpAny_mono (turn n s hI) (fun r s₁ h₁ => ?_) fun _ _ h' => h')))
  cases r with
  | none => exact wpAny_pure h₁
  | some v =>
    refine wpAny_bind (wpAny_mono h₁ (fun _ s₁ h₁ => ?_) fun _ _ h' => h')
    refine wpAny_bind (wpAny_mono h₁ (fun _ s₂ h₂ => wpAny_bind (wpAny_mono h₂ (fun ok s₃ h₃ => ?_) fun _ _ h' => h')) fun _ _ h' => h')
    cases ok with
    | false => exact wpAny_pure ⟨rfl, h₃⟩
    | true =>
      exact wpAny_bind (wpAny_bind (wpAny_mono h₃ (fun x s₄ h₄ => wpAny_bind (wpAny_mono h₄ (fun _ s₅ h₅ => wpAny_pure (wpAny_pure ⟨rfl, h₅⟩)) fun _ _ h' => h')) fun _ _ h' => h'))
theorem compLoopV {n0 : Nat} {elt iter tgt : Expr} {ifs : List Expr} {scope : Scope} {pos : Pos} {cl' : List (Str × Nat)} {clos : List (Str × Addr)} {C it aa : Addr} {n a : Nat} {item : Nat → V} {Cn : St → Prop} {J : Nat → Heap → Prop} {I : Nat → List V → List O → Prop}
    {RR : Result → Shared → Prop} {s₀ : Shared} (R : Room d A) (T : It c ρ it n item Cn J) (hgo : GoOk c tgt it J)
    (ok : CompOkT n0 c d fx tgt ifs elt scope cl' n item Cn I a) (hpre : ρ <+: ρ') (ha : ρ'[a]? = some aa)
    (r : RelS c ⟨compEnvC scope clos C fx.env, cl', ρ'⟩ ρ' ⟨[], hp⟩ s) (hk₀ : ∀ b o, s₀.heap.get? b = some o → s.heap.get? b = some o)
    (hit : it ∉ ρ') (hit0 : c.H₀.get? it = none) (hitC : it ≠ C) (hJ : J 0 s.heap) (hI : I 0 [] hp) (hn : n0 ≤ s.toks)
    (fin : ∀ ρ₁ s₁ acc hp₁, ρ' <+: ρ₁ → Ext ⟨compEnvC scope clos C fx.env, cl', ρ'⟩ ρ' s₀.heap ρ₁ s₁.heap ∨ True → (∀ b ∈ ρ₁, b ∈ ρ' ∨ s₀.heap.get? b = none) → (∀ b o, b ≠ it → b ≠ C → b ∉ ρ' → s₀.heap.get? b = some o → s₁.heap.get? b = some o) →
      RelS c ⟨compEnvC scope clos C fx.env, cl', ρ'⟩ ρ₁ ⟨[], hp₁⟩ s₁ → I n acc hp₁ → RR (.ok .next) s₁) :
    codeAny c.M A (.compLoop (.ListComp elt [⟨tgt, iter, ifs, 0⟩] scope pos) 0 (.ref it) (.ref aa) (compEnvC scope clos C fx.env)) RR s := by
  refine testsT (fun m s' => ∃ i ρ₁ acc hp₁, n - i = m ∧ i ≤ n ∧ (∀ b ∈ ρ₁, b ∈ ρ' ∨ s₀.heap.get? b = none) ∧ (∀ b o, b ≠ it → b ≠ C → b ∉ ρ' → s₀.heap.get? b = some o → s'.heap.get? b = some o) ∧ it ∉ ρ₁ ∧
    RelS c ⟨compEnvC scope clos C fx.env, cl', ρ'⟩ ρ₁ ⟨[], hp₁⟩ s' ∧ J i s'.heap ∧ I i acc hp₁ ∧ n0 ≤ s'.toks) ?_ n ⟨0, ρ', [], hp, rfl, Nat.zero_le _, fun _ m => .inl m, fun b o _ _ _ e => hk₀ b o e, hit, r, hJ, hI, hn⟩
  rintro m s₁ ⟨i, ρ₁, acc, hp₁, hm, hin, hnw, hkp, hit1, r₁, j₁, hI₁, hn₁⟩
  obtain ⟨oi, hoi, hnf⟩ := T.at_ _ _ j₁
  have side : ∀ h', Keep [it] s₁.heap h' → Rel c ⟨compEnvC scope clos C fx.env, cl', ρ'⟩ ρ₁ ⟨[], hp₁⟩ h' := fun h' k => r₁.1.side k (fun b m => by rw [List.mem_singleton] at m; subst m; exact hit0) (fun b m => by rw [List.mem_singleton] at m; subst m; exact hit1)
    (fun m => by rw [List.mem_singleton] at m; exact hitC m.symm) (fun b m o e => by rw [List.mem_singleton] at m; subst m; rw [hoi] at e; cases e; exact hnf)
  have hp' : ρ' <+: ρ₁ := r₁.1.pre
  rcases Nat.lt_or_eq_of_le hin with hlt | rfl
  · refine wpT hn₁ ?_
    refine T.next ⟨compEnvC scope clos C fx.env, cl', ρ'⟩ i ρ₁ ⟨[], hp₁⟩ s₁ A _ _ hlt R.handled ((ok.1 _ _ _ hI₁).2 _) (hpre.trans hp') r₁ j₁ fun y h' tk hy j' k' htk => ?_
    have r₂ : RelS c ⟨compEnvC scope clos C fx.env, cl', ρ'⟩ ρ₁ ⟨[], hp₁⟩ { s₁ with heap := h', toks := tk } := ⟨side h' k', r₁.2⟩
    have keep2 : ∀ b o, b ≠ it → b ≠ C → b ∉ ρ' → s₀.heap.get? b = some o → h'.get? b = some o := fun b o h1 h2 h3 e => k' b o (fun m => h1 (List.mem_singleton.mp m)) (hkp b o h1 h2 h3 e)
    -- a later step of the turn
    have step : ∀ {ρ₂ : List Addr} {σ₂ : St} {s₂ : Shared}, Ext ⟨compEnvC scope clos C fx.env, cl', ρ'⟩ ρ₁ h' ρ₂ s₂.heap → RelS c ⟨compEnvC scope clos C fx.env, cl', ρ'⟩ ρ₂ σ₂ s₂ → ∀ acc', I (i + 1) acc' σ₂.hp → n0 ≤ s₂.toks →
        ∃ m', m' < m ∧ ∃ i ρ₁ acc hp₁, n - i = m' ∧ i ≤ n ∧ (∀ b ∈ ρ₁, b ∈ ρ' ∨ s₀.heap.get? b = none) ∧ (∀ b o, b ≠ it → b ≠ C → b ∉ ρ' → s₀.heap.get? b = some o → s₂.heap.get? b = some o) ∧ it ∉ ρ₁ ∧
          RelS c ⟨compEnvC scope clos C fx.env, cl', ρ'⟩ ρ₁ ⟨[], hp₁⟩ s₂ ∧ J i s₂.heap ∧ I i acc hp₁ ∧ n0 ≤ s₂.toks := fun {ρ₂ σ₂ s₂} e₂ r₂' acc' hI₂ hn₂ => by
      obtain ⟨loc₂, hp₂⟩ := σ₂
      have hit2 : it ∉ ρ₂ := fun q => by
        rcases e₂.new it q with q | q
        · exact hit1 q
        · obtain ⟨o, ho, _⟩ := T.at_ _ _ j'; rw [show h'.get? it = none from q] at ho; cases ho
      refine ⟨n - (i + 1), by omega, i + 1, ρ₂, acc', hp₂, rfl, hlt, fun b hb => ?_, fun b o h1 h2 h3 e => ?_, hit2, ⟨r₂'.1.forget, r₂'.2⟩, ?_, hI₂, hn₂⟩
      · rcases e₂.new b hb with q | q
        · exact hnw b q
        · by_cases hbρ : b ∈ ρ'
          · exact .inl hbρ
          · right
            cases ho : s₀.heap.get? b with
            | none => rfl
            | some o =>
              have hbi : b ≠ it := fun e => by subst e; exact hit2 hb
              have hbC : b ≠ C := fun e => by subst e; exact r₂'.1.lapart hb
              rw [keep2 b o hbi hbC hbρ ho] at q; cases q
      · refine e₂.keep b o (fun m => ?_) (keep2 b o h1 h2 h3 e)
        rcases List.mem_cons.mp m with m | m
        · exact h2 m
        · rcases hnw b m with q | q
          · exact h3 q
          · rw [q] at e; cases e
      · refine T.keep _ _ _ j' (fun o e => e₂.keep it o (fun m => ?_) e) (r₂.1.immKeep e₂.keep)
        rcases List.mem_cons.mp m with q | q
        · exact hitC q
        · exact hit1 q
    refine hgo A (i + 1) _ y _ _ j' ?_
    refine wpT (s := { s₁ with heap := h', toks := tk }) htk ?_
    refine wpAny_mono (ok.2 C clos ρ' i acc hp₁ hlt hI₁ ρ₁ { s₁ with heap := h', toks := tk } A y R r₂ hy) ?_ fun _ _ z => z.elim
    rintro _ s₂ ⟨ρ₂, σ₂, p₂, e₂, r₂', hturn⟩ hn₂
    have after : ∀ {ρ₃ : List Addr} {σ₃ : St} {s₃ : Shared}, Ext ⟨compEnvC scope clos C fx.env, cl', ρ'⟩ ρ₁ h' ρ₃ s₃.heap → RelS c ⟨compEnvC scope clos C fx.env, cl', ρ'⟩ ρ₃ σ₃ s₃ → n0 ≤ s₃.toks →
        EVq n0 c d ⟨compEnvC scope clos C fx.env, cl', ρ'⟩ (eval elt (compEnvC scope clos C fx.env)) σ₃ (fun v σ₂ => CTP I a i acc (some v) σ₂) →
        wpAny c.M A (eval elt (compEnvC scope clos C fx.env)) (fun x s₄ => wpAny c.M A (PySem.call (.builtin "list.append") [.ref aa, x]) (fun _ s₅ => ∃ m', m' < m ∧ ∃ i ρ₁ acc hp₁, n - i = m' ∧ i ≤ n ∧ (∀ b ∈ ρ₁, b ∈ ρ' ∨ s₀.heap.get? b = none) ∧ (∀ b o, b ≠ it → b ≠ C → b ∉ ρ' → s₀.heap.get? b = some o → s₅.heap.get? b = some o) ∧ it ∉ ρ₁ ∧
          RelS c ⟨compEnvC scope clos C fx.env, cl', ρ'⟩ ρ₁ ⟨[], hp₁⟩ s₅ ∧ J i s₅.heap ∧ I i acc hp₁ ∧ n0 ≤ s₅.toks) noE s₄) noE s₃ := fun {ρ₃ σ₃ s₃} e₃ r₃ hn₃ h₃ => by
      refine wpT hn₃ ?_
      refine wpAny_mono (h₃.run R r₃ hn₃) ?_ fun _ _ z => z
      rintro z s₄ ⟨ρ₄, v, σ₄, p₄, e₄, r₄, v₄, g1, g2, g3⟩ hn₄
      refine wpT hn₄ ?_
      have haa : ρ₄[a]? = some aa := pre_get r₄.1.pre ha
      refine wpAny_mono (OVs.append (c := c) (d := d) (Q := fun _ σ => σ = ⟨σ₄.loc, σ₄.hp.set a (.list (acc ++ [v]))⟩) g1 g2 rfl ρ₄ s₄ A [.ref aa, z] R r₄ (.cons (.ref haa) (.cons v₄ .nil))) ?_ fun _ _ z => z
      rintro _ s₅ ⟨ρ₅, _, _, p₅, e₅, r₅, _, rfl⟩ hn₅
      exact step ((e₃.trans e₄ r₃.1.hasL).trans e₅ r₄.1.hasL) r₅ _ g3 hn₅
    match ifs, hturn with
    | [], hturn => exact wpAny_tests_nil (by rw [if_pos rfl]; exact wpAny_mono (after e₂ r₂' hn₂ hturn) (fun _ _ q => wpAny_mono q (fun _ _ q => q) fun _ _ z => z.elim) fun _ _ z => z.elim)
    | [t], hturn =>
      refine wpAny_tests_one (wpT hn₂ (wpAny_mono (hturn ρ₂ s₂ A R r₂') ?_ fun _ _ z => z.elim))
      rintro b s₃ ⟨ρ₃, σ₃, p₃, e₃, r₃, h₃⟩ hn₃
      cases b with
      | true => rw [if_pos rfl]; exact wpAny_mono (after (e₂.trans e₃ r₂'.1.hasL) r₃ hn₃ (h₃.1 rfl)) (fun _ _ q => wpAny_mono q (fun _ _ q => q) fun _ _ z => z.elim) fun _ _ z => z.elim
      | false => rw [if_neg (by decide)]; exact step (e₂.trans e₃ r₂'.1.hasL) r₃ acc (h₃.2 rfl) hn₃
    | _ :: _ :: _, hturn => exact hturn.elim
  · refine T.done ⟨compEnvC scope clos C fx.env, cl', ρ'⟩ ρ₁ ⟨[], hp₁⟩ s₁ A _ _ R.handled ((ok.1 _ _ _ hI₁).2 _) (hpre.trans hp') r₁ j₁ fun h' tk k' => ?_
    exact fin ρ₁ _ acc hp₁ hp' (.inr trivial) hnw (fun b o h1 h2 h3 e => k' b o (fun m => h1 (List.mem_singleton.mp m)) (hkp b o h1 h2 h3 e)) ⟨side h' k', r₁.2⟩ hI₁

theorem compV {n0 : Nat} {elt iter tgt : Expr} {ifs : List Expr} {scope : Scope} {pos p0 : Pos} {cl' : List (Str × Nat)} {use : Option (Value → Sem Unit)} {RQ : Value → Shared → Prop} {F : V → St → Prop} (R : Room d A) (r : RelS c fx ρ σ s) (hn : n0 ≤ s.toks)
    (hcl : cloV fx.cl scope.names [] = some cl') (hkind : scope.kind = .function) (hnames : scope.names.all (fun y => y.2 != .local || scope.names.lookup y.1 == some .local) = true) (hcell : scope.names.any (fun y => y.2 == .cell) = false)
    (h : EV c d fx (eval iter fx.env) σ (fun v σ₁ => ∃ n item Cn I, SrcT c fx tgt v σ₁ n item Cn ∧ I 0 [] (σ₁.hp ++ [.list []]) ∧ CompOkT n0 c d fx tgt ifs elt scope cl' n item Cn I σ₁.hp.length ∧ (∀ acc hp', I n acc hp' → F (.ref σ₁.hp.length) ⟨σ₁.loc, hp'⟩)))
    (hs : ∀ x, foldedSetIterable iter fx.env x = pure x)
    (fin : ∀ ρ' s' σ' v y C, ρ <+: ρ' → Ext fx ρ s.heap ρ' s'.heap → RelS c fx ρ' σ' s' → VR ρ' s'.heap v y → F v σ' → (∃ m, s'.heap.Ns C m) → C ∉ ρ' → C ≠ fx.env.locals → c.H₀.get? C = none → s.heap.get? C = none → compPost c.M A noE use RQ y C (.ok .next) s') :
    wpAny c.M A (comprehension (.ListComp elt [⟨tgt, iter, ifs, 0⟩] scope pos) scope fx.env p0 (newList []) false (eval iter fx.env) use) RQ noE s := by
  obtain ⟨clos, hc1, hc2⟩ := closure_V (r.1.cells.mono r.1.pre) hcl
  refine wpAny_comprehension_free rfl hs hc1 hkind (fun y hy hl => ?_) (wpT hn (wpAny_mono (h ρ s A R r) ?_ fun _ _ e => e))
  · have := List.all_eq_true.mp hnames y hy
    rw [hl] at this; simpa using this
  rintro xv s₁ ⟨ρ₁, v, ⟨loc₁, hp₁⟩, p₁, e₁, r₁, v₁, n, item, Cn, I, hsrc, hI0, hok, hF⟩ hn₁
  refine wpT hn₁ ?_
  refine hsrc ρ₁ s₁ A xv _ _ R.handled r₁ v₁ fun it J h₂ tk hk₂ hsz1 hnew h0 T hgo hJ htk => ?_
  have r₂ : RelS c fx ρ₁ ⟨loc₁, hp₁⟩ { s₁ with heap := h₂, toks := tk } := ⟨r₁.1.ext hk₂, r₁.2⟩
  have hit1 : it ∉ ρ₁ := fun m => by
    obtain ⟨_, _, x, _, _, hx, _⟩ := r₁.1.toHRel.mem m
    rw [hnew] at hx; cases hx
  have hitS : it < h₂.objs.size := by obtain ⟨o, ho, _⟩ := T.at_ _ _ hJ; exact Heap.lt_size ho
  refine wpAny_newObj_type (wpAny_newFunctionEnv (fun y hy e => ?_) (by intro y hy; simp at hy) (fun h₃ hns hsb => ?_) hkind)
  · have := List.any_eq_false.mp hcell y hy
    rw [e] at this; exact this rfl
  dsimp only at hns hsb ⊢
  generalize hH : h₂.push { cls := .type "list", dict := none, data := .seq ([] : List Value).toArray } = H at hns hsb ⊢
  have hr3 : Rel c fx (ρ₁ ++ [h₂.objs.size]) ⟨loc₁, hp₁ ++ [.list []]⟩ H := by
    rw [← hH]; exact r₂.1.alloc (o := .list []) rfl ⟨[], _, rfl, .nil⟩
  have hHs : H.objs.size = h₂.objs.size + 1 := by rw [← hH, Heap.size_push]
  have oldH : ∀ b o, H.get? b = some o → h₃.get? b = some o := fun b o e => hsb.extBut b o (Nat.ne_of_lt (Heap.lt_size e)) (Heap.get?_push_of_some _ e)
  have old2 : ∀ b o, h₂.get? b = some o → H.get? b = some o := fun b o e => by rw [← hH]; exact Heap.get?_push_of_some _ e
  have old : ∀ b o, s₁.heap.get? b = some o → h₃.get? b = some o := fun b o e => oldH b o (old2 b o (hk₂ b o e))
  have rC : Rel c ⟨compEnvC scope clos H.objs.size fx.env, cl', ρ₁ ++ [h₂.objs.size]⟩ (ρ₁ ++ [h₂.objs.size]) ⟨[], hp₁ ++ [.list []]⟩ h₃ :=
    Rel.enter (env := compEnvC scope clos H.objs.size fx.env) (ns := []) (vs := []) (xs := []) r₁.1.ok hr3.toHRel rfl r₁.1.glob r₁.1.bltn hkind ((hc2.mono p₁).mono (pre_snoc _ _)) .nil rfl .nil hns oldH
  have haa : (ρ₁ ++ [h₂.objs.size])[hp₁.length]? = some h₂.objs.size := by rw [← r₁.1.len]; simp
  have loop : ∀ s₃ : Shared, s₃ = ⟨h₃, s₁.gens, s₁.drawn, tk, s₁.os⟩ → codeAny c.M A (.compLoop (.ListComp elt [⟨tgt, iter, ifs, 0⟩] scope pos) 0 (.ref it) (.ref h₂.objs.size) (compEnvC scope clos H.objs.size fx.env)) (compPost c.M A noE use RQ (.ref h₂.objs.size) H.objs.size) s₃ := by
    rintro s₃ rfl
    refine compLoopV (s₀ := s₁) (ρ := ρ₁) (ρ' := ρ₁ ++ [h₂.objs.size]) (a := hp₁.length) R T hgo hok (pre_snoc _ _) haa ⟨rC, r₁.2⟩ old (fun m => ?_) h0 (fun e => ?_) (T.keep _ _ _ hJ (fun o e => oldH _ o (old2 _ o e)) fun b o _ e => oldH b o (old2 b o e)) hI0 htk fun ρ₄ s₄ acc hp₄ p₄ _ hnw hkp r₄ hIn => ?_
    · rcases List.mem_append.mp m with m | m
      · exact hit1 m
      · rw [List.mem_singleton.mp m] at hitS; exact Nat.lt_irrefl _ hitS
    · have q : it < H.objs.size := by rw [hHs]; exact Nat.lt_succ_of_lt hitS
      rw [e] at q; exact Nat.lt_irrefl _ q
    · have hD1 : s₁.heap.get? h₂.objs.size = none := get_none_of_lt hsz1
      have hC1 : s₁.heap.get? H.objs.size = none := get_none_of_lt (by rw [hHs]; exact Nat.le_succ_of_le hsz1)
      have fe : FExt ρ₁ s₁.heap ρ₄ s₄.heap := by
        refine ⟨(pre_snoc _ _).trans p₄, fun b hb => ?_, fun b o nb e => hkp b o (fun q => ?_) (fun q => ?_) (fun m => ?_) e⟩
        · rcases hnw b hb with q | q
          · rcases List.mem_append.mp q with q | q
            · exact .inl q
            · rw [List.mem_singleton] at q; subst q; exact .inr hD1
          · exact .inr q
        · subst q; rw [hnew] at e; cases e
        · subst q; rw [hC1] at e; cases e
        · rcases List.mem_append.mp m with q | q
          · exact nb q
          · rw [List.mem_singleton] at q; subst q; rw [hD1] at e; cases e
      have ro : RelS c fx ρ₄ ⟨loc₁, hp₄⟩ s₄ := ⟨r₁.1.after fe r₄.1.toHRel, r₄.2⟩
      obtain ⟨mC, hmC, _⟩ := r₄.1.loc
      have hCs : s.heap.get? H.objs.size = none := by
        cases q : s.heap.get? H.objs.size with
        | none => rfl
        | some o =>
          exfalso
          by_cases hm : H.objs.size ∈ fx.env.locals :: ρ
          · rcases List.mem_cons.mp hm with hm | hm
            · obtain ⟨o', ho'⟩ := r₁.1.hasL
              rw [← hm, hC1] at ho'; cases ho'
            · obtain ⟨i, hi, hi2⟩ := List.getElem_of_mem hm
              have := pre_get p₁ (List.getElem?_eq_some_iff.mpr ⟨hi, hi2⟩)
              obtain ⟨_, _, z, _, _, hz, _⟩ := r₁.1.toHRel.mem (mem_of_get? this)
              rw [hC1] at hz; cases hz
          · have := e₁.keep _ _ hm q
            rw [hC1] at this; cases this
      refine fin ρ₄ s₄ ⟨loc₁, hp₄⟩ (.ref hp₁.length) (.ref h₂.objs.size) H.objs.size (p₁.trans fe.pre) (e₁.trans fe.ext r₁.1.hasL) ro (.ref (pre_get p₄ haa)) (hF acc hp₄ hIn) ⟨mC, hmC⟩ r₄.1.lapart (fun e => ?_) r₄.1.lfresh hCs
      obtain ⟨o, ho⟩ := r₁.1.hasL
      rw [← e, hC1] at ho; cases ho
  exact codeAny_compStart_list (loop _ rfl) (T.self 0 _ _ _ _ (T.keep _ _ _ hJ (fun o e => oldH _ o (old2 _ o e)) fun b o _ e => oldH b o (old2 b o e)) (loop _ rfl))
end
end Mine
namespace Mine
open PySem PySem.W PyProof.Rows PySem.SeqAt
section
variable {c : Cx} {d k : Nat} {fx : Fx} {ρ ρ' ρ'' : List Addr} {σ σ' : St} {h h' h'' : Heap} {s s' s₁ : Shared} {A : Around} {Q : V → St → Prop} {X : Fl → St → Prop}
  {loc loc' : List (Str × V)} {hp hp' : List O}
theorem Ns.notFix {a : Addr} {m : Str → Option Value} (hn : h.Ns a m) {o : Obj} (e : h.get? a = some o) : ¬ Fix o := fun f => by
  obtain ⟨o', es, ep, e', hd, _⟩ := hn
  rw [e] at e'; cases e'
  exact f.notDict hd
theorem RelS.sideNs {C : Addr} {m : Str → Option Value} (r : RelS c fx ρ σ s) (hn : s.heap.Ns C m) (h1 : C ∉ ρ) (h2 : C ≠ fx.env.locals) (h3 : c.H₀.get? C = none) (hs : Heap.SameBut C s.heap h') : RelS c fx ρ σ { s with heap := h' } :=
  ⟨r.1.side (.of_sameBut hs) (fun b m => by rw [List.mem_singleton] at m; subst m; exact h3) (fun b m => by rw [List.mem_singleton] at m; subst m; exact h1) (fun m => by rw [List.mem_singleton] at m; exact h2 m.symm)
    (fun b m o e => by rw [List.mem_singleton] at m; subst m; exact Ns.notFix hn e), r.2⟩
theorem Ext.sideNs {C : Addr} {s₀ : Heap} (e : Ext fx ρ s₀ ρ' h) (h0 : s₀.get? C = none) (hs : Heap.SameBut C h h') : Ext fx ρ s₀ ρ' h' :=
  ⟨e.new, fun b o nb z => (hs.2 b (fun q => by subst q; rw [h0] at z; cases z)).trans (e.keep b o nb z)⟩

theorem compEVT {n0 : Nat} {elt iter tgt : Expr} {ifs : List Expr} {scope : Scope} {pos : Pos} {cl' : List (Str × Nat)}
    (hcl : cloV fx.cl scope.names [] = some cl')
    (h : EV c d fx (eval iter fx.env) σ (fun v σ₁ => ∃ n item Cn I, SrcT c fx tgt v σ₁ n item Cn ∧ I 0 [] (σ₁.hp ++ [.list []]) ∧ CompOkT n0 c d fx tgt ifs elt scope cl' n item Cn I σ₁.hp.length ∧ (∀ acc hp', I n acc hp' → Q (.ref σ₁.hp.length) ⟨σ₁.loc, hp'⟩)))
    (hkind : scope.kind = .function := by rfl) (hnames : scope.names.all (fun y => y.2 != .local || scope.names.lookup y.1 == some .local) = true := by decide +kernel) (hcell : scope.names.any (fun y => y.2 == .cell) = false := by decide +kernel)
    (hs : ∀ x, foldedSetIterable iter fx.env x = pure x := by intro _; rfl) :
    EVn n0 c d fx (eval (.ListComp elt [⟨tgt, iter, ifs, 0⟩] scope pos) fx.env) σ Q := fun ρ s A R r hn => by
  rw [eval_ListComp]
  refine compV (F := Q) R r hn hcl hkind hnames hcell h hs fun ρ' s' σ' v y C p e r' hv hF hN h1 h2 h3 h4 => ?_
  obtain ⟨m, hm⟩ := hN
  refine ⟨m, hm, fun h' hs' => ⟨ρ', v, σ', p, e.sideNs h4 hs', r'.sideNs hm h1 h2 h3 hs', ?_, hF⟩⟩
  refine hv.mono (List.prefix_refl _) fun b o f e' => (hs'.2 b (fun q => ?_)).trans e'
  subst q; exact Ns.notFix hm e' f
theorem CompOkN.toT {n0 : Nat} {x : Str} {px : Pos} {ifs : List Expr} {elt : Expr} {scope : Scope} {cl' : List (Str × Nat)} {n : Nat} {item : Nat → V} {Cn : St → Prop} {I : Nat → List V → List O → Prop} {a : Nat} (hx : scope.names.lookup x = some .local)
    (ok : CompOkN n0 c d fx x ifs elt scope cl' n item Cn I a) : CompOkT n0 c d fx (.Name x px) ifs elt scope cl' n item Cn I a :=
  ⟨ok.1, fun C clos ρ₀ i acc hp hi hI => OU1.name (ok.2 C clos ρ₀ i acc hp hi hI) (lookup_relabel_local hx)⟩
theorem compEV {n0 : Nat} {elt iter : Expr} {x : Str} {px : Pos} {ifs : List Expr} {scope : Scope} {pos : Pos} {cl' : List (Str × Nat)}
    (hcl : cloV fx.cl scope.names [] = some cl')
    (h : EV c d fx (eval iter fx.env) σ (fun v σ₁ => ∃ n item Cn I, Src c fx v σ₁ n item Cn ∧ I 0 [] (σ₁.hp ++ [.list []]) ∧ CompOkN n0 c d fx x ifs elt scope cl' n item Cn I σ₁.hp.length ∧ (∀ acc hp', I n acc hp' → Q (.ref σ₁.hp.length) ⟨σ₁.loc, hp'⟩)))
    (hkind : scope.kind = .function := by rfl) (hnames : scope.names.all (fun y => y.2 != .local || scope.names.lookup y.1 == some .local) = true := by decide +kernel) (hcell : scope.names.any (fun y => y.2 == .cell) = false := by decide +kernel)
    (hx : scope.names.lookup x = some .local := by rfl) (hs : ∀ x, foldedSetIterable iter fx.env x = pure x := by intro _; rfl) :
    EVn n0 c d fx (eval (.ListComp elt [⟨.Name x px, iter, ifs, 0⟩] scope pos) fx.env) σ Q :=
  compEVT hcl (h.mono fun v σ₁ ⟨n, item, Cn, I, a1, a2, a3, a4⟩ => ⟨n, item, Cn, I, a1.name, a2, a3.toT hx, a4⟩) hkind hnames hcell hs

theorem EV.comp {elt iter : Expr} {x : Str} {px : Pos} {ifs : List Expr} {scope : Scope} {pos : Pos} {cl' : List (Str × Nat)}
    (hcl : cloV fx.cl scope.names [] = some cl')
    (h : EV c d fx (eval iter fx.env) σ (fun v σ₁ => ∃ n item Cn I, Src c fx v σ₁ n item Cn ∧ I 0 [] (σ₁.hp ++ [.list []]) ∧ CompOk c d fx x ifs elt scope cl' n item Cn I σ₁.hp.length ∧ (∀ acc hp', I n acc hp' → Q (.ref σ₁.hp.length) ⟨σ₁.loc, hp'⟩)))
    (hkind : scope.kind = .function := by rfl) (hnames : scope.names.all (fun y => y.2 != .local || scope.names.lookup y.1 == some .local) = true := by decide +kernel) (hcell : scope.names.any (fun y => y.2 == .cell) = false := by decide +kernel)
    (hx : scope.names.lookup x = some .local := by rfl) (hs : ∀ x, foldedSetIterable iter fx.env x = pure x := by intro _; rfl) :
    EV c d fx (eval (.ListComp elt [⟨.Name x px, iter, ifs, 0⟩] scope pos) fx.env) σ Q := fun ρ s A R r => compEV (n0 := 0) hcl h hkind hnames hcell hx hs ρ s A R r (Nat.zero_le _)
theorem XV.assignComp {elt iter : Expr} {x y : Str} {px py : Pos} {ifs : List Expr} {scope : Scope} {pos spos : Pos} {cl' : List (Str × Nat)}
    (hcl : cloV fx.cl scope.names [] = some cl')
    (h : EV c d fx (eval iter fx.env) σ (fun v σ₁ => ∃ n item Cn I, Src c fx v σ₁ n item Cn ∧ I 0 [] (σ₁.hp ++ [.list []]) ∧ CompOk c d fx x ifs elt scope cl' n item Cn I σ₁.hp.length ∧ (∀ acc hp', I n acc hp' →
      OU1 c d fx (fun u => PySem.assign (.Name y py) fx.env u) (.ref σ₁.hp.length) ⟨σ₁.loc, hp'⟩ (fun _ σ₂ => X .next σ₂))))
    (hsw : swapsWith (.ListComp elt [⟨.Name x px, iter, ifs, 0⟩] scope pos) (some (.Name y py)) spos.line fx.env = pure true := by rfl)
    (hkind : scope.kind = .function := by rfl) (hnames : scope.names.all (fun y => y.2 != .local || scope.names.lookup y.1 == some .local) = true := by decide +kernel) (hcell : scope.names.any (fun y => y.2 == .cell) = false := by decide +kernel)
    (hx : scope.names.lookup x = some .local := by rfl) (hs : ∀ x, foldedSetIterable iter fx.env x = pure x := by intro _; rfl) :
    XV c d fx (exec (.Assign [.Name y py] (.ListComp elt [⟨.Name x px, iter, ifs, 0⟩] scope pos) spos) fx.env) σ X := fun ρ s A R r => by
  rw [exec_Assign_Name_used _ _ _ _ hsw]
  refine wpAny_bind (wpAny_standAt (wpAny_bind ?_))
  show wpAny _ A (do let _ ← comprehension (.ListComp elt [⟨.Name x px, iter, ifs, 0⟩] scope pos) scope fx.env _ (newList []) false (eval iter fx.env) (some (PySem.assign (.Name y py) fx.env))) _ _ s
  refine wpAny_bind ?_
  refine compV (F := fun v σ' => OU1 c d fx (fun u => PySem.assign (.Name y py) fx.env u) v σ' (fun _ σ₂ => X .next σ₂)) R r (Nat.zero_le _) hcl hkind hnames hcell (h.mono fun v σ₁ ⟨n, item, Cn, I, a1, a2, a3, a4⟩ => ⟨n, item, Cn, I, a1.name, a2, a3.toT hx, a4⟩) hs fun ρ' s' σ' v z C p e r' hv hF hN h1 h2 h3 h4 => ?_
  obtain ⟨m, hm⟩ := hN
  refine wpAny_mono (hF ρ' s' A z R r' hv) ?_ fun _ _ q => q
  rintro _ s₂ ⟨ρ₂, σ₂, p₂, e₂, r₂, q⟩
  have hC2 : C ∉ ρ₂ := fun m' => by
    rcases e₂.new C m' with q | q
    · exact h1 q
    · obtain ⟨o, _, _, e', _⟩ := hm; rw [e'] at q; cases q
  have hm₂ : s₂.heap.Ns C m := by
    obtain ⟨o, es, ep, e', hd⟩ := hm
    exact ⟨o, es, ep, e₂.keep C o (fun q => by rcases List.mem_cons.mp q with q | q; exact h2 q; exact h1 q) e', hd⟩
  refine ⟨m, hm₂, fun h' hs' => wpAny_pure (wpAny_pure ?_)⟩
  exact ⟨ρ₂, .next, σ₂, (e.trans e₂ r'.1.hasL).sideNs h4 hs', r₂.sideNs hm₂ hC2 h2 h3 hs', .next, q⟩
end
end Mine
namespace Mine
open PySem PySem.W PyProof.Rows PySem.SeqAt
section
variable {c : Cx} {d k : Nat} {fx : Fx} {ρ ρ' ρ'' : List Addr} {σ σ' : St} {h h' h'' : Heap} {s s' s₁ : Shared} {A : Around} {Q : V → St → Prop} {X : Fl → St → Prop}
  {loc loc' : List (Str × V)} {hp hp' : List O}
theorem rng_post {a b st : Int} {t u v : Tok} {tk : Tok} (r : RelS c fx ρ σ s) (q : Q (.ref σ.hp.length) ⟨σ.loc, σ.hp ++ [.rng a b st]⟩) : Post c fx ρ s Q (.ref s.heap.objs.size) { s with heap := s.heap.push (rngObj a b st t u v), toks := tk } := by
  obtain ⟨loc, hp⟩ := σ
  exact ⟨ρ ++ [s.heap.objs.size], _, _, pre_snoc _ _, .alloc _, ⟨r.1.alloc (o := .rng a b st) rfl ⟨_, _, _, rfl⟩, r.2⟩, .ref (by rw [← r.1.len]; simp), q⟩
theorem OVs.range1 {b : Int} (q : Q (.ref σ.hp.length) ⟨σ.loc, σ.hp ++ [.rng 0 b 1]⟩) : OVs c d fx (fun xs => PySem.call (.type "range") xs) [.int b] σ Q := fun ρ s A xs _ r va => by
  cases va using VRs.consC with
  | cons v1 v2 => cases v2 using VRs.nilC; cases v1 using VR.intC; exact call_range_1 (rng_post r q)
theorem It.range {it : Addr} {a st : Int} {n : Nat} : It c ρ it n (fun i => .int (a + i * st)) (fun _ => True) (fun i h => IsRangeIter h it (a + i * st) ((n : Int) - i) st) where
  next := fun fx i ρ' σ s A R E hi hh hC hp r hJ q => by
    refine wpAny_pyNext_range_item hJ (by omega) fun h' hit hs => ?_
    refine q _ h' _ (.int _ _) ?_ (.of_sameBut hs)
    have e1 : a + (i : Int) * st + st = a + ((i + 1 : Nat) : Int) * st := by rw [Int.natCast_succ, Int.add_mul]; omega
    have e2 : (n : Int) - i - 1 = (n : Int) - ((i + 1 : Nat) : Int) := by omega
    rw [e1, e2] at hit; exact hit
  done := fun fx ρ' σ s A R E hh hC hp r hJ q => wpAny_pyNext_range_end hh hJ (by omega) fun h' hx => q h' s.toks (.of_extBut hx)
  self := fun i s A R E hJ h => by
    refine wpAny_pyIter_slot ⟨_, hJ, rfl⟩ F.slot_range_iterator_iter (wpAny_call_entry F.slot_range_iterator_iter ⟨_, hJ, rfl⟩ F.entry_range_iterator_iter ?_ (F.args_range_iterator_iter_1 _))
    show wpAny _ _ (ret (.ref it)) _ _ s
    exact wpAny_pure ⟨_, rfl, "range_iterator", _, ⟨_, hJ, rfl⟩, F.slot_range_iterator_next.lookup, h⟩
  keep := fun i h h' hJ k _ => k _ hJ
  at_ := fun i h e => ⟨_, e, notFix_of rfl (by decide)⟩
theorem Src.range {i : Nat} {a b st : Int} {n : Nat} (ho : σ.hp[i]? = some (.rng a b st)) (hn : Builtin.Range.rangeSize a b st = n) (hs : Builtin.Range.small a b st = true) : Src c fx (.ref i) σ n (fun i => .int (a + i * st)) (fun _ => True) := fun ρ s A x R E hh r vx q => by
  cases vx using VR.refC with
  | ref ha =>
    rename_i ad
    obtain ⟨x, h1, t, u, v, rfl⟩ := r.1.obj i ad _ ha ho
    refine wpAny_pyIter_range h1 hs ?_
    refine q _ _ _ s.toks (fun _ _ e => Heap.get?_push_of_some _ e) (by rw [Heap.size_push]; exact Nat.le_succ _) (get_none_of_lt (Nat.le_refl _)) (r.1.size₀ (Nat.le_refl _)) (It.range (n := n) (a := a) (st := st)) ?_
    show IsRangeIter _ _ (a + (0 : Nat) * st) ((n : Int) - (0 : Nat)) st
    rw [hn]
    have e1 : a + ((0 : Nat) : Int) * st = a := by simp
    have e2 : (n : Int) - ((0 : Nat) : Int) = n := by simp
    rw [e1, e2]
    exact Heap.get?_push_size _ rfl
theorem small_of {a b : Int} (ha : -1000000 ≤ a ∧ a ≤ 1000000) (hb : -1000000 ≤ b ∧ b ≤ 1000000) : Builtin.Range.small a b 1 = true := by
  unfold Builtin.Range.small
  rw [rangeSize_one]
  simp only [Builtin.Range.rangeFitsLong, show (1 : Int) > 0 by decide, if_true]
  split <;> simp <;> omega
theorem Src.upto {i n : Nat} (ho : σ.hp[i]? = some (.rng 0 n 1)) (hn : n ≤ 1000000) : Src c fx (.ref i) σ n (fun i => .int i) (fun _ => True) := by
  have := Src.range (c := c) (fx := fx) ho (n := n) (by rw [rangeSize_one]; split <;> omega) (small_of (by omega) (by omega))
  simpa using this
end
end Mine
namespace Mine
open PySem PySem.W PyProof.Rows PySem.SeqAt
section
variable {c : Cx} {d k : Nat} {fx : Fx} {ρ ρ' ρ'' : List Addr} {σ σ' : St} {h h' h'' : Heap} {s s' s₁ : Shared} {A : Around} {Q : V → St → Prop} {X : Fl → St → Prop}
  {loc loc' : List (Str × V)} {hp hp' : List O}
theorem OV2.ne_nil {i j : Nat} {vs : List V} (h1 : σ.hp[i]? = some (.list vs)) (h2 : σ.hp[j]? = some (.list [])) (q : Q (.bool (!vs.isEmpty)) σ) : OV2 c d fx (compareOp .NotEq) (.ref i) (.ref j) σ Q := fun ρ s A x y R r vx vy => by
  cases vx using VR.refC with
  | ref ha => cases vy using VR.refC with
    | ref hb =>
      rename_i a b
      obtain ⟨x, g1, xs, n, rfl, g2⟩ := r.1.obj i a _ ha h1
      obtain ⟨y, g3, ys, m, rfl, g4⟩ := r.1.obj j b _ hb h2
      cases g4
      cases vs with
      | nil =>
        cases g2
        have := RcNeAt.lists (A := A) (s := s) (items := #[]) (items2 := #[]) (e := fun _ => true) ⟨_, g1, rfl, n, rfl⟩ ⟨_, g3, rfl, m, rfl⟩ rfl R.c (fun j h1 _ => by simp at h1)
        exact this _ _ _ _ (Post.same r rfl rfl rfl (.bool _) q)
      | cons v vs =>
        cases g2
        have := RcNeAt.lists_lengths (A := A) (s := s) ⟨_, g1, rfl, n, rfl⟩ ⟨_, g3, rfl, m, rfl⟩ (by simp) R.c
        exact this _ _ _ _ (Post.same r rfl rfl rfl (.bool _) q)
end
end Mine
namespace Mine
open PySem PySem.W PyProof.Rows PySem.SeqAt
section
variable {c : Cx} {d k : Nat} {fx : Fx} {ρ ρ' ρ'' : List Addr} {σ σ' : St} {h h' h'' : Heap} {s s' s₁ : Shared} {A : Around} {Q : V → St → Prop} {X : Fl → St → Prop}
  {loc loc' : List (Str × V)} {hp hp' : List O}
end
end Mine
namespace Mine
open PySem PySem.W PyProof.Rows
section
variable {c : Cx} {d k : Nat} {fx : Fx} {ρ ρ' ρ'' : List Addr} {σ σ' : St} {h h' h'' : Heap} {s s' s₁ : Shared} {A : Around} {Q : V → St → Prop} {X : Fl → St → Prop}
  {loc loc' : List (Str × V)} {hp hp' : List O}
theorem Post.keeps {v : V} {x : Value} {tk : Tok} (r : RelS c fx ρ σ s) (hk : ∀ b o, s.heap.get? b = some o → h'.get? b = some o) (hv : VR ρ s.heap v x) (q : Q v σ) : Post c fx ρ s Q x { s with heap := h', toks := tk } :=
  ⟨ρ, v, σ, List.prefix_refl _, .ext hk, ⟨r.1.ext hk, r.2⟩, hv.mono (List.prefix_refl _) fun _ _ _ e => hk _ _ e, q⟩
theorem VRs.ints' : ∀ {ns : List Int} {xs : List Value}, VRs ρ h (ns.map V.int) xs → ∃ ts : List (Int × Tok), xs = ts.map (fun p => Value.int p.1 p.2) ∧ ts.map (·.1) = ns
  | [], _, w => by cases w using VRs.nilC; exact ⟨[], rfl, rfl⟩
  | n :: ns, _, w => by
    cases w using VRs.consC with
    | cons v r => cases v using VR.intC with
      | int t =>
        obtain ⟨ts, e1, e2⟩ := VRs.ints' r
        exact ⟨(n, t) :: ts, by rw [e1]; rfl, by rw [← e2]; rfl⟩
theorem preSum_take (ns : List Int) : ∀ j, j ≤ ns.length → preSum (fun i => ns[i]?.getD 0) j = (ns.take j).sum
  | 0, _ => by simp [preSum]
  | j + 1, hj => by
    unfold preSum
    have e : ns.take (j + 1) = ns.take j ++ [ns[j]] := by rw [List.take_add_one, List.getElem?_eq_getElem (by omega)]; rfl
    rw [preSum_take ns j (by omega), e, List.sum_append, List.getElem?_eq_getElem (by omega)]
    simp
theorem sum_bound : ∀ (ns : List Int), (∀ n ∈ ns, -1000000 ≤ n ∧ n ≤ 1000000) → -1000000 * (ns.length : Int) ≤ ns.sum ∧ ns.sum ≤ 1000000 * (ns.length : Int)
  | [], _ => by simp
  | n :: r, hn => by
    have h1 := hn n (.head _)
    have h2 := sum_bound r fun m hm => hn m (.tail _ hm)
    simp only [List.sum_cons, List.length_cons]
    omega
theorem OVs.sum {i : Nat} {ns : List Int} (ho : σ.hp[i]? = some (.list (ns.map V.int))) (hb : ∀ n ∈ ns, -1000000 ≤ n ∧ n ≤ 1000000) (hl : ns.length ≤ 1000000) (q : Q (.int ns.sum) σ) :
    OVs c d fx (fun xs => PySem.call (.builtin "sum") xs) [.ref i] σ Q := fun ρ s A xs R r va => by
  cases va using VRs.consC with
  | cons v1 v2 =>
    cases v2 using VRs.nilC
    cases v1 using VR.refC with
    | ref ha =>
      rename_i b
      obtain ⟨a, ys, n, h1, h2, h3, h4⟩ := r.1.toHRel.list ho
      have eab : b = a := Option.some.inj (ha.symm.trans h1)
      subst eab
      obtain ⟨ts, rfl, e2⟩ := VRs.ints' h3
      have e3 : ∀ j, numAt ts.toArray j = ns[j]?.getD 0 := fun j => by
        unfold numAt; rw [← e2]; simp
      have e4 : numAt ts.toArray = fun j => ns[j]?.getD 0 := funext e3
      have hlen : ts.length = ns.length := by rw [← e2]; simp
      refine sum_intList (xs := ts.toArray) R.handled (by unfold intItems; simpa using h4) (fun j hj => ?_) fun h' tk t' hk => ?_
      · have hj' : j < ns.length := by simpa [hlen] using hj
        rw [e4, preSum_take _ _ (by omega)]
        have b1 := hb ns[j] (List.getElem_mem hj')
        have b2 := sum_bound (ns.take (j + 1)) fun m hm => hb m (List.mem_of_mem_take hm)
        have b3 : (ns.take (j + 1)).length ≤ 1000000 := by rw [List.length_take]; omega
        have e : ns[j]?.getD 0 = ns[j] := by simp [hj']
        refine ⟨by simp only [e]; unfold InLong; omega, by unfold InLong; omega⟩
      · have e : preSum (numAt ts.toArray) ts.toArray.size = ns.sum := by
          rw [e4, preSum_take _ _ (by simp [hlen])]
          simp [hlen]
        rw [e]
        exact Post.keeps r hk (.int _ _) q
theorem list_post {vs : List V} {xs : List Value} {n : Nat} {tk : Tok} (r : RelS c fx ρ σ s) (hv : VRs ρ s.heap vs xs) (q : Q (.ref σ.hp.length) ⟨σ.loc, σ.hp ++ [.list vs]⟩) : Post c fx ρ s Q (.ref s.heap.objs.size) { s with heap := s.heap.push (listObj xs.toArray n), toks := tk } := by
  obtain ⟨loc, hp⟩ := σ
  have ho : OR (ρ ++ [s.heap.objs.size]) (s.heap.push (listObj xs.toArray n)) (.list vs) (listObj xs.toArray n) := ⟨xs, n, rfl, hv.mono (pre_snoc ..) fun _ _ _ e => Heap.get?_push_of_some _ e⟩
  refine ⟨ρ ++ [s.heap.objs.size], .ref hp.length, _, pre_snoc .., .alloc _, ⟨r.1.alloc rfl ho, r.2⟩, .ref ?_, q⟩
  rw [← r.1.len, List.getElem?_append_right (Nat.le_refl _)]; simp
theorem OV2.add_list {i j : Nat} {vs us : List V} (h1 : σ.hp[i]? = some (.list vs)) (h2 : σ.hp[j]? = some (.list us)) (hz : vs.length + us.length ≤ 100000) (q : Q (.ref σ.hp.length) ⟨σ.loc, σ.hp ++ [.list (vs ++ us)]⟩) : OV2 c d fx (binaryOp .Add) (.ref i) (.ref j) σ Q := fun ρ s A x y R r vx vy => by
  cases vx using VR.refC with
  | ref ha => cases vy using VR.refC with
    | ref hb =>
      rename_i a b
      obtain ⟨x, g1, xs, n, rfl, g2⟩ := r.1.obj i a _ ha h1
      obtain ⟨y, g3, ys, m, rfl, g4⟩ := r.1.obj j b _ hb h2
      refine P.add_list g1 g3 ?_ (by simp [sizeLine_eq, ← g2.length, ← g4.length]; omega)
      have := list_post (n := 0) (tk := s.toks) r (g2.append g4) q
      simpa using this
end
end Mine
namespace Mine
open PySem PySem.W PyProof.Rows
section
variable {c : Cx} {d k : Nat} {fx : Fx} {ρ ρ' ρ'' : List Addr} {σ σ' : St} {h h' h'' : Heap} {s s' s₁ : Shared} {A : Around} {Q : V → St → Prop} {X : Fl → St → Prop}
  {loc loc' : List (Str × V)} {hp hp' : List O}
end
end Mine
namespace Mine
open PySem PySem.W PyProof.Rows
section
variable {c : Cx} {d k : Nat} {fx : Fx} {ρ ρ' ρ'' : List Addr} {σ σ' : St} {h h' h'' : Heap} {s s' s₁ : Shared} {A : Around} {Q : V → St → Prop} {X : Fl → St → Prop}
  {loc loc' : List (Str × V)} {hp hp' : List O}
theorem EV.unary {x : Expr} {op pos} (h : EV c d fx (eval x fx.env) σ (fun v σ₁ => OV1 c d fx (unaryOp op) v σ₁ Q)) : EV c d fx (eval (.UnaryOp op x pos) fx.env) σ Q := fun ρ s A R r =>
  UnaryOp_ (bindEE R r h)
theorem OV1.neg_int {a : Int} (q : Q (.int (-a)) σ) : OV1 c d fx (unaryOp .USub) (.int a) σ Q := fun ρ s A x R r vx => by
  cases vx using VR.intC
  exact P.neg_int (Post.same r rfl rfl rfl (.int _ _) q)
end
end Mine
namespace Mine
open PySem PySem.W PyProof.Rows
section
variable {c : Cx} {d k : Nat} {fx : Fx} {ρ ρ' ρ'' : List Addr} {σ σ' : St} {h h' h'' : Heap} {s s' s₁ : Shared} {A : Around} {Q : V → St → Prop} {X : Fl → St → Prop}
  {loc loc' : List (Str × V)} {hp hp' : List O}
end
end Mine
namespace Mine
open PySem PySem.W PyProof.Rows Builtin Builtin.Str
section
variable {c : Cx} {d k : Nat} {fx : Fx} {ρ ρ' ρ'' : List Addr} {σ σ' : St} {h h' h'' : Heap} {s s' s₁ : Shared} {A : Around} {Q : V → St → Prop} {X : Fl → St → Prop}
  {loc loc' : List (Str × V)} {hp hp' : List O}
end
end Mine
namespace Mine
open PySem PySem.W PyProof.Rows
section
variable {ρ : List Addr} {h : Heap} {K : Type} [DecidableEq K]
end
section
variable {c : Cx} {d k : Nat} {fx : Fx} {ρ ρ' ρ'' : List Addr} {σ σ' : St} {h h' h'' : Heap} {s s' s₁ : Shared} {A : Around} {Q : V → St → Prop} {X : Fl → St → Prop}
  {loc loc' : List (Str × V)} {hp hp' : List O} {K : Type} [DecidableEq K] {knd : KeyKind c.prog c.w K} {mk : Nat → List (K × V) → O} {kv : K → V}
end
end Mine
namespace Mine
open PySem PySem.W PyProof.Rows
section
variable {c : Cx} {d k : Nat} {fx : Fx} {ρ ρ' ρ'' : List Addr} {σ σ' : St} {h h' h'' : Heap} {s s' s₁ : Shared} {A : Around} {Q : V → St → Prop} {X : Fl → St → Prop}
  {loc loc' : List (Str × V)} {hp hp' : List O}
end
end Mine
namespace Mine
open PySem PySem.W PyProof.Rows PySem.SeqAt
section
variable {c : Cx} {d k : Nat} {fx : Fx} {ρ ρ' ρ'' : List Addr} {σ σ' : St} {h h' h'' : Heap} {s s' s₁ : Shared} {A : Around} {Q : V → St → Prop} {X : Fl → St → Prop}
  {loc loc' : List (Str × V)} {hp hp' : List O}
theorem draw_list {E : Value → Shared → Prop} {it t : Addr} {items : Array Value} (hne : t ≠ it) : ∀ (n i : Nat) (s : Shared) (R : List Value → Shared → Prop), s.heap.IsListIter it t i → s.heap.IsList t items → i + n ≤ items.size →
    (∀ h', h'.IsListIter it t (i + n) → Heap.SameBut it s.heap h' → R ((items.toList.drop i).take n) { s with heap := h' }) → wpAny c.M A (draw (.ref it) n) R E s
  | 0, i, s, R, hit, _, _, hQ => by
    show wpAny _ _ (pure []) R E s
    exact wpAny_pure (by simpa using hQ s.heap hit (Heap.SameBut.refl ..))
  | n + 1, i, s, R, hit, ht, hle, hQ => by
    have hlt : i < items.size := by omega
    show wpAny _ _ (pyNext (.ref it) >>= _) R E s
    refine wpAny_bind (wpAny_pyNext_list_item hit ht (x := items[i]) (by simp [hlt]) fun h₁ hit₁ hs₁ => ?_)
    refine wpAny_bind (wpAny_holding (draw_list hne n (i + 1) _ _ hit₁ (ht.extBut hs₁.extBut hne) (by omega) fun h₂ hit₂ hs₂ => wpAny_pure ?_))
    have hd : items.toList.drop i = items[i] :: items.toList.drop (i + 1) := by simp [List.drop_eq_getElem_cons, hlt]
    have := hQ h₂ (by rw [show i + (n + 1) = i + 1 + n by omega]; exact hit₂) (hs₁.trans hs₂)
    rw [hd, List.take_succ_cons] at this
    exact this
theorem unpackItems_list {E : Value → Shared → Prop} {t : Addr} {items : Array Value} {R : List Value → Shared → Prop} (hh : A.handled = none) (ht : s.heap.IsList t items)
    (hQ : ∀ h', Heap.ExtBut s.heap.objs.size s.heap h' → R items.toList { s with heap := h' }) : wpAny c.M A (unpackItems (.ref t) items.size none) R E s := by
  have hlt : t ≠ s.heap.objs.size := by obtain ⟨o, ho, _⟩ := ht; exact Nat.ne_of_lt (Heap.lt_size ho)
  unfold unpackItems
  refine wpAny_bind ?_
  unfold notIterableAtAll
  refine wpAny_bind (wpAny_specialOf ht.typeIs slot_list_iter.lookup ?_)
  refine wpAny_pure ?_
  simp only [Bool.false_eq_true, if_false]
  refine wpAny_bind (wpAny_holding (wpAny_pyIter_list ht ?_))
  refine wpAny_bind (wpAny_holding (draw_list hlt items.size 0 _ _ ⟨_, Heap.get?_push_size _ rfl, rfl, rfl⟩ (ht.extBut (b := s.heap.objs.size) (fun b o _ e => Heap.get?_push_of_some _ e) hlt) (by omega) fun h₁ hit₁ hs₁ => ?_))
  have hall : List.take items.size (List.drop 0 items.toList) = items.toList := by
    rw [List.drop_zero]; exact List.take_of_length_le (by simp)
  rw [hall]
  rw [if_neg (by simp)]
  have ht₁ : h₁.IsList t items := (ht.extBut (b := s.heap.objs.size) (fun b o _ e => Heap.get?_push_of_some _ e) hlt).extBut hs₁.extBut hlt
  refine wpAny_bind (wpAny_holding (wpAny_pyNext_list_end hh hit₁ ht₁ (by simp) fun h₂ he₂ => ?_))
  simp only [Option.isSome_none, Bool.false_eq_true, if_false]
  refine wpAny_pure (hQ h₂ fun b o hb e => he₂ b o hb (hs₁.extBut b o hb (Heap.get?_push_of_some _ e)))
theorem OU1.tupleL {elts : List Expr} {x1 : Nat} {pos : Pos} {l : Nat} {vs : List V} {Q : St → Prop} (ho : σ.hp[l]? = some (.list vs)) (hl : elts.length = vs.length) (q : UN c d fx elts vs σ Q) (hpl : plainArgs elts = true := by rfl) :
    OU1 c d fx (fun y => assign (.Tuple elts x1 pos) fx.env y) (.ref l) σ (fun _ σ' => Q σ') := fun ρ s A y R r hv => by
  cases hv using VR.refC with
  | ref ha =>
    rename_i a
    obtain ⟨a', xs, n, h1, h2, hx, h4⟩ := r.1.toHRel.list ho
    have eab : a = a' := Option.some.inj (ha.symm.trans h1)
    subst eab
    have hae := assignEach_plain (env := fx.env) hpl
    show wpAny c.M A (assign (.Tuple elts x1 pos) fx.env (.ref a)) _ _ s
    rw [arm_assign_Tuple]
    refine wpAny_bind (wpAny_standAt ?_)
    unfold unpack
    have hstar : (assignEach elts fx.env).findIdx? (·.1) = none := by
      rw [hae]
      clear q hl hae
      induction elts with
      | nil => rfl
      | cons e r ih =>
        have : plainArgs r = true := by cases e <;> first | exact hpl | cases hpl
        rw [List.map_cons, List.findIdx?_cons, ih this]; rfl
    have hn : (assignEach elts fx.env).length = xs.toArray.size := by rw [hae]; simp [hl, hx.length]
    rw [hn, hstar]
    refine wpAny_bind (wpAny_holding (unpackItems_list R.handled h4 fun h' he => ?_))
    have hk : ∀ b o, s.heap.get? b = some o → h'.get? b = some o := fun b o e => he b o (Nat.ne_of_lt (Heap.lt_size e)) e
    have r' : RelS c fx ρ σ { s with heap := h' } := ⟨r.1.ext hk, r.2⟩
    have he' : ((assignEach elts fx.env).map (·.2)) = elts.map fun e => assign e fx.env := by rw [hae, List.map_map]; rfl
    rw [he']
    exact UN.run R r' (hx.mono (List.prefix_refl _) fun _ _ _ e => hk _ _ e) q fun ρ' σ' s' p e r'' q => ⟨ρ', σ', p, (Ext.ext hk).trans e r'.1.hasL, r'', q⟩
theorem Rel.adopt {a : Addr} {o : O} {x : Obj} (r : Rel c fx ρ ⟨loc, hp⟩ h) (hx : h.get? a = some x) (hn : a ∉ ρ) (h0 : c.H₀.get? a = none) (hL : fx.env.locals ≠ a) (ho : OR (ρ ++ [a]) h o x) : Rel c fx (ρ ++ [a]) ⟨loc, hp ++ [o]⟩ h := by
  obtain ⟨m, hm, hv⟩ := r.loc
  refine { toHRel := ⟨r.keep, by simp [r.len], ?_, fun b m => ?_, fun i b o' e1 e2 => ?_⟩, ok := r.ok, loc := ⟨m, hm, fun x v e => let ⟨u, h1, h2⟩ := hv x v e; ⟨u, h1, h2.mono (pre_snoc ..) (ImmKeep.refl _)⟩⟩,
           lfresh := r.lfresh, lapart := fun m => ?_, pre := r.pre.trans (pre_snoc ..), glob := r.glob, bltn := r.bltn, kind := r.kind, cells := r.cells }
  · rw [List.nodup_append]
    refine ⟨r.nodup, by simp, fun b hb b' hb' e => ?_⟩
    rw [List.mem_singleton] at hb'
    subst hb'; subst e
    exact hn hb
  · rcases List.mem_append.mp m with m | m
    · exact r.fresh b m
    · rw [List.mem_singleton] at m; subst m; exact h0
  · by_cases hi : i < ρ.length
    · rw [List.getElem?_append_left hi] at e1
      rw [List.getElem?_append_left (by rw [← r.len]; exact hi)] at e2
      obtain ⟨y, h1, h2⟩ := r.obj i b o' e1 e2
      exact ⟨y, h1, h2.mono (pre_snoc ..) (ImmKeep.refl _)⟩
    · have hl : i = ρ.length := by
        have := (List.getElem?_eq_some_iff.mp e1).1
        simp at this; omega
      subst hl
      rw [List.getElem?_append_right (Nat.le_refl _)] at e1
      rw [List.getElem?_append_right (by rw [r.len]; exact Nat.le_refl _)] at e2
      rw [r.len] at e2
      simp at e1 e2
      subst e1 e2
      exact ⟨x, hx, ho⟩
  · rcases List.mem_append.mp m with m | m
    · exact r.lapart m
    · rw [List.mem_singleton] at m; exact hL m
end
end Mine
namespace Mine
open PySem PySem.W PyProof.Rows PySem.SeqAt

noncomputable def clB : Stmt → List Stmt
  | .ClassDef _ _ _ body .. => body
  | _ => []
noncomputable def fName : Stmt → Str
  | .FunctionDef n .. => n
  | _ => ""
noncomputable def fArgs : Stmt → Arguments
  | .FunctionDef _ a .. => a
  | _ => ⟨[], [], none, [], [], none, []⟩
noncomputable def fBody : Stmt → List Stmt
  | .FunctionDef _ _ b .. => b
  | _ => []
noncomputable def fScope : Stmt → Scope
  | .FunctionDef _ _ _ _ _ _ s .. => s
  | _ => ⟨.function, [], false, false, []⟩
noncomputable def nthS : List Stmt → Nat → Stmt
  | [], _ => .Pass ⟨0, 0, 0, 0⟩
  | s :: _, 0 => s
  | _ :: r, n + 1 => nthS r n
noncomputable def stmt (n : Nat) : Stmt := nthS PySem.Challenge.pw_dm0214_02.main.body n
noncomputable def meth (n : Nat) : Stmt := nthS (clB (stmt 1)) n

noncomputable def FnK (K : Frag) (a : Addr) (qual : Str) (S : Stmt) : Prop :=
  ∃ oc od doc pm cd ct osl, K.lookup a = some ⟨oc, od, .func (fnX (fName S) qual (fArgs S) (fBody S) (fScope S) [] .none .none doc pm none cd ct), osl⟩ ∧ codeIn K cd qual = true
theorem FV.fn {c : Cx} {k : Nat} {a : Addr} {qual : Str} {S : Stmt} {ns : List Str} {vs : List V} {hp : List O} {Q : V → List O → Prop} (hK : FnK c.K a qual S)
    (hb : ∀ doc pm cd ct, ∀ xs : List Value, ns.length = xs.length → bindArgs (fnX (fName S) qual (fArgs S) (fBody S) (fScope S) [] .none .none doc pm none cd ct) ⟨xs, []⟩ = pure (ns.zip xs)) (hl : ns.length = vs.length) (hnd : ns.Nodup)
    (hloc : ns.all (fun n => (fScope S).names.lookup n == some .local) = true) (hcell : (fScope S).names.any (fun x => x.2 == .cell) = false)
    (h : ∀ L cd ρ₀, ρ₀.length = hp.length → XV c k ⟨envX qual (fScope S) L a cd [], [], ρ₀⟩ (execs (fBody S) (envX qual (fScope S) L a cd [])) ⟨ns.zip vs, hp⟩ (retQ Q))
    (hco : (fScope S).isCoroutine = false := by rfl) (hgen : (fScope S).isGenerator = false := by rfl) (hk : (fScope S).kind = .function := by rfl) :
    FV c (k + 1) (.top a) vs hp Q := by
  obtain ⟨oc, od, doc, pm, cd, ct, osl, h1, h2⟩ := hK
  refine FV.def h1 h2 (hb doc pm cd ct) hl hnd (fun n hn => ?_) (fun x hx e => ?_) (fun L ρ₀ => h L cd ρ₀) hco hgen hk
  · exact beq_iff_eq.mp (List.all_eq_true.mp hloc n hn)
  · have := List.any_eq_false.mp hcell x hx
    rw [e] at this; exact this rfl

noncomputable def FnKc (K : Frag) (a : Addr) (qual : Str) (S : Stmt) (cd : Value) : Prop :=
  ∃ oc od doc pm ct osl, K.lookup a = some ⟨oc, od, .func (fnX (fName S) qual (fArgs S) (fBody S) (fScope S) [] .none .none doc pm none cd ct), osl⟩ ∧ codeIn K cd qual = true
theorem FV.fnC {c : Cx} {k : Nat} {a : Addr} {qual : Str} {S : Stmt} {cd : Value} {ns cs : List Str} {vs : List V} {hp : List O} {Q : V → List O → Prop} (hK : FnKc c.K a qual S cd)
    (hb : ∀ doc pm cd ct, ∀ xs : List Value, ns.length = xs.length → bindArgs (fnX (fName S) qual (fArgs S) (fBody S) (fScope S) [] .none .none doc pm none cd ct) ⟨xs, []⟩ = pure (ns.zip xs)) (hl : ns.length = vs.length) (hnd : ns.Nodup)
    (hcs : cellsFrom 0 (fScope S).names [] = cs.zipIdx.reverse) (hcn : cs.Nodup) (hkn : cs.all (fun n => (fScope S).names.lookup n == some .cell) = true) (hloc : ns.all (fun n => (fScope S).names.lookup n == some .local || cs.contains n) = true)
    (h : ∀ L cells ρ₀, ρ₀.length = hp.length + cs.length → XV c k ⟨envX qual (fScope S) L a cd cells, clOf hp.length cs, ρ₀⟩ (execs (fBody S) (envX qual (fScope S) L a cd cells))
      ⟨(ns.zip vs).filter (fun p => (fScope S).names.lookup p.1 == some .local), hp ++ cs.map fun n => .cell ((ns.zip vs).lookup n)⟩ (retQ Q))
    (hco : (fScope S).isCoroutine = false := by rfl) (hgen : (fScope S).isGenerator = false := by rfl) (hk : (fScope S).kind = .function := by rfl) :
    FV c (k + 1) (.top a) vs hp Q := by
  obtain ⟨oc, od, doc, pm, ct, osl, h1, h2⟩ := hK
  refine FV.defC h1 h2 (hb doc pm cd ct) hl hnd hcs hcn (fun n hn => beq_iff_eq.mp (List.all_eq_true.mp hkn n hn)) (fun n hn => ?_) h hco hgen hk
  have := List.all_eq_true.mp hloc n hn
  rcases Bool.or_eq_true _ _ ▸ this with z | z
  · exact .inl (beq_iff_eq.mp z)
  · exact .inr (by simpa using z)

noncomputable def FnKd (K : Frag) (a T : Addr) (qual : Str) (S : Stmt) (dv : List Value) : Prop :=
  (∃ oc od kV doc pm cd ct osl, K.lookup a = some ⟨oc, od, .func (fnX (fName S) qual (fArgs S) (fBody S) (fScope S) [] (.ref T) kV doc pm none cd ct), osl⟩ ∧ codeIn K cd qual = true) ∧ ∃ toc tod tn tsl, K.lookup T = some ⟨toc, tod, .seq dv.toArray tn, tsl⟩
theorem FVk.fnd {c : Cx} {k : Nat} {a T : Addr} {qual : Str} {S : Stmt} {dv : List Value} {ns kn : List Str} {vs kv us : List V} {hp : List O} {Q : V → List O → Prop} (hK : FnKd c.K a T qual S dv) (sel : List Value → List Value → List Value)
    (hb : ∀ kV doc pm cd ct, ∀ xs ys : List Value, vs.length = xs.length → kv.length = ys.length → ∃ kk, bindArgs (fnX (fName S) qual (fArgs S) (fBody S) (fScope S) [] (.ref T) kV doc pm none cd ct) ⟨xs, kn.zip ys⟩ = seqItems? (.ref T) >>= kk ∧ kk (some dv.toArray) = pure (ns.zip (sel xs ys)))
    (hu : ∀ ρ h xs ys, VRs ρ h vs xs → VRs ρ h kv ys → VRs ρ h us (sel xs ys)) (hl : ns.length = us.length) (hnd : ns.Nodup)
    (hloc : ns.all (fun n => (fScope S).names.lookup n == some .local) = true) (hcell : (fScope S).names.any (fun x => x.2 == .cell) = false)
    (h : ∀ L cd ρ₀, ρ₀.length = hp.length → XV c k ⟨envX qual (fScope S) L a cd [], [], ρ₀⟩ (execs (fBody S) (envX qual (fScope S) L a cd [])) ⟨ns.zip us, hp⟩ (retQ Q))
    (hco : (fScope S).isCoroutine = false := by rfl) (hgen : (fScope S).isGenerator = false := by rfl) (hk : (fScope S).kind = .function := by rfl) :
    FVk c (k + 1) (.top a) vs kn kv hp Q := by
  obtain ⟨⟨oc, od, kV, doc, pm, cd, ct, osl, h1, h2⟩, toc, tod, tn, tsl, h3⟩ := hK
  refine FVk.defD sel h1 h3 h2 (hb kV doc pm cd ct) hu hl hnd (fun n hn => ?_) (fun x hx e => ?_) (fun L ρ₀ => h L cd ρ₀) hco hgen hk
  · exact beq_iff_eq.mp (List.all_eq_true.mp hloc n hn)
  · have := List.any_eq_false.mp hcell x hx
    rw [e] at this; exact this rfl
structure ErrK (K : Frag) (C aI aD aS : Addr) : Prop where
  cls : ExcK K C
  makes : makesExcIn K C = true
  gC : nsIn K mainGlobals "NetrcParseError" = some (some (.ref C))
  kC : keepIn K (.ref C) = true
  init : findIn K (.ref C) "__init__" = some (some (.ref aI))
  tI : typeIn K (.ref aI) = some (.type "function")
  fI : FnKd K aI aD "NetrcParseError.__init__" (meth 0) [.none, .none]
  st : findIn K (.ref C) "__str__" = some (some (.ref aS))
  tS : isFn K (.ref aS) = true
  fS : FnK K aS "NetrcParseError.__str__" (meth 1)
  a1 : findIn K (.ref C) "filename" = some none
  a2 : findIn K (.ref C) "lineno" = some none
  a3 : findIn K (.ref C) "msg" = some none
  ar : findIn K (.ref C) "args" = some (some (.builtin "BaseException.args"))
  gE : nsIn K mainGlobals "Exception" = some none
noncomputable abbrev at_ (kvs : List (Str × V)) (n : Str) : Option V := kvs.lookup n
theorem app_get {α : Type} {l ext : List α} {i : Nat} {o : α} (e : l[i]? = some o) : (l ++ ext)[i]? = some o := by rw [List.getElem?_append_left (List.getElem?_eq_some_iff.mp e).1]; exact e
theorem lk_ne {x y : Str} {u v : V} {loc : List (Str × V)} (e : loc.lookup y = some v) (h : (y == x) = false) : (put x u loc).lookup y = some v := by rw [put_lookup, h]; exact e
theorem lk_eq {x : Str} {u : V} {loc : List (Str × V)} : (put x u loc).lookup x = some u := by rw [put_lookup]; simp
theorem ga {hp : List O} {x : O} {g : List O} : (hp ++ x :: g)[hp.length]? = some x := by simp
theorem sa {hp : List O} {x y : O} {g : List O} : (hp ++ x :: g).set hp.length y = hp ++ y :: g := by rw [List.set_append_right _ _ (Nat.le_refl _)]; simp
theorem set_ne {α : Type} {l : List α} {i j : Nat} {x o : α} (h : i ≠ j) (e : l[i]? = some o) : (l.set j x)[i]? = some o := by rw [List.getElem?_set_ne (Ne.symm h)]; exact e
theorem set_at {α : Type} {l : List α} {i : Nat} {x o : α} (e : l[i]? = some o) : (l.set i x)[i]? = some x := List.getElem?_set_self (List.getElem?_eq_some_iff.mp e).1
theorem lt_of_get {α : Type} {l : List α} {i : Nat} {o : α} (e : l[i]? = some o) : i < l.length := (List.getElem?_eq_some_iff.mp e).1
theorem blk_get {H : List O} {n : Nat} {l : List O} {x : O} (e : l[n]? = some x) : (H ++ l)[H.length + n]? = some x := by
  rw [List.getElem?_append_right (by omega), Nat.add_sub_cancel_left]; exact e
end Mine
namespace Mine
open PySem PySem.W PyProof.Rows PySem.SeqAt
section
variable {c : Cx} {C aI aD aS : Addr}
noncomputable abbrev ens (f l m : V) : O := .ns [("filename", f), ("lineno", l), ("msg", m)]
theorem bind4 {T : Addr} {kV doc pm cd ct : Value} {xs ys : List Value} (h : 4 = xs.length) (h' : 0 = ys.length) : ∃ kk, bindArgs (fnX (fName (meth 0)) "NetrcParseError.__init__" (fArgs (meth 0)) (fBody (meth 0)) (fScope (meth 0)) [] (.ref T) kV doc pm none cd ct) ⟨xs, ([] : List Str).zip ys⟩ = seqItems? (.ref T) >>= kk ∧
    kk (some [Value.none, .none].toArray) = pure ((["self", "msg", "filename", "lineno"] : List Str).zip xs) := by
  obtain ⟨a, b, c, d, rfl⟩ : ∃ a b c d, xs = [a, b, c, d] := by rcases xs with _ | ⟨a, _ | ⟨b, _ | ⟨c, _ | ⟨d, _ | ⟨e, r⟩⟩⟩⟩⟩ <;> simp at h; exact ⟨_, _, _, _, rfl⟩
  exact ⟨_, rfl, rfl⟩
theorem initErr {hp : List O} {m f l : V} (Z : ErrK c.K C aI aD aS) :
    FVk c 2 (.top aI) [.ref hp.length, m, f, l] [] [] (hp ++ [.exc C none (.tup [m, f, l]) false]) (fun v hp' => v = .none ∧ hp' = hp ++ [.exc C (some (hp.length + 1)) (.tup [m]) false, ens f l m]) := by
  refine FVk.fnd Z.fI (ns := ["self", "msg", "filename", "lineno"]) (us := [.ref hp.length, m, f, l]) (fun xs _ => xs) (fun _ _ _ _ _ xs ys h h' => bind4 h h') (fun ρ h xs ys v _ => v) rfl (by decide) (by decide +kernel) (by decide +kernel) fun Lo cd ρ₀ hρ => ?_
  refine XV.cons ?_
  refine XV.setattrE0 ?_
  refine EV.var rfl ?_
  refine EV.var rfl ?_
  refine ⟨hp.length, C, .tup [m, f, l], rfl, by simp, Z.cls, by unfold takerIn; rw [Z.a1]; rfl, ?_⟩
  refine XV.st2 (loc' := [("self", .ref hp.length), ("msg", m), ("filename", f), ("lineno", l)]) (hp' := hp ++ [.exc C (some (hp.length + 1)) (.tup [m, f, l]) false, .ns [("filename", f)]]) rfl (by simp) ?_
  refine XV.cons ?_
  refine XV.setattrE ?_
  refine EV.var rfl ?_
  refine EV.var rfl ?_
  refine ⟨hp.length, C, hp.length + 1, .tup [m, f, l], false, [("filename", f)], rfl, by simp, by simp, Z.cls, by unfold takerIn; rw [Z.a2]; rfl, Nat.lt_of_sub_eq_succ rfl, ?_⟩
  refine XV.st2 (loc' := [("self", .ref hp.length), ("msg", m), ("filename", f), ("lineno", l)]) (hp' := hp ++ [.exc C (some (hp.length + 1)) (.tup [m, f, l]) false, .ns [("filename", f), ("lineno", l)]]) rfl (by simp; rfl) ?_
  refine XV.cons ?_
  refine XV.setattrE ?_
  refine EV.var rfl ?_
  refine EV.var rfl ?_
  refine ⟨hp.length, C, hp.length + 1, .tup [m, f, l], false, [("filename", f), ("lineno", l)], rfl, by simp, by simp, Z.cls, by unfold takerIn; rw [Z.a3]; rfl, Nat.lt_of_sub_eq_succ rfl, ?_⟩
  refine XV.st2 (loc' := [("self", .ref hp.length), ("msg", m), ("filename", f), ("lineno", l)]) (hp' := hp ++ [.exc C (some (hp.length + 1)) (.tup [m, f, l]) false, ens f l m]) rfl (by simp; rfl) ?_
  refine XV.cons ?_
  refine XV.expr ?_
  refine EV.excInit Z.gE ?_
  refine EVs.cons ?_
  refine EV.var rfl ?_
  refine EVs.cons ?_
  refine EV.var rfl ?_
  refine EVs.nil ?_
  refine ⟨hp.length, C, some (hp.length + 1), [m, f, l], [m], false, rfl, by simp, Z.cls, by simp, ?_⟩
  refine XV.nil ?_
  exact ⟨rfl, by simp⟩
theorem newErr {hp : List O} {m f l : V} (Z : ErrK c.K C aI aD aS) :
    FV c 3 (.top C) [m, f, l] hp (fun v hp' => v = .ref hp.length ∧ hp' = hp ++ [.exc C (some (hp.length + 1)) (.tup [m]) false, ens f l m]) :=
  FVk.fv (FVk.newE Z.makes Z.init Z.tI (show (3 : Nat) ≤ 100 by decide) (fun ρ s A x xs ys R ok r vf va vk => codeAny_mono (initErr Z ρ s A x xs ys R ok r vf va vk) fun _ _ ⟨ρ', v, hp', y, e, e1, r1, v1, q⟩ => ⟨ρ', v, hp', y, e, e1, r1, v1, q.1, rfl, q.2⟩))
inductive Showable (c : Cx) (C : Addr) (aS : Addr) (hp : List O) (k : Nat) (v : V) (l : List Nat) : Prop
  | str (e : v = .str l)
  | int (i : Int) (e : v = .int i) (hl : i.natAbs.log2 < 1920) (el : l = txtOf (toString i))
  | none (e : v = .none) (el : l = txtOf "None")
  | bool (b : Bool) (e : v = .bool b) (el : l = txtOf (if b then "True" else "False"))
  | err (i j : Nat) (a : V) (b : Bool) (kvs : List (Str × V)) (e : v = .ref i) (h1 : hp[i]? = some (.exc C (some j) a b)) (h2 : hp[j]? = some (.ns kvs))
    (h : FV c k (.top aS) [.ref i] hp (fun v hp' => v = .str l ∧ hp' = hp))
theorem Showable.fmt {hp : List O} {loc : List (Str × V)} {k d : Nat} {v : V} {l : List Nat} {fx : Fx} {Q : V → St → Prop} (Z : ErrK c.K C aI aD aS) (S : Showable c C aS hp k v l) (hl : l.length ≤ sizeLine) (hk : k ≤ d) (q : Q (.str l) ⟨loc, hp⟩) : FmtV c d fx v ⟨loc, hp⟩ Q := by
  cases S with
  | str e => subst e; exact FmtV.fmtStr hl q
  | int i e h el => subst e; subst el; exact FmtV.fmtInt h q
  | none e el => subst e; subst el; exact FmtV.fmtNone q
  | bool b e el => subst e; subst el; exact FmtV.fmtBool q
  | err i j a b kvs e h1 h2 h => subst e; exact FmtV.fmtExc k h1 h2 Z.st Z.tS (h.mono fun v hp' ⟨e1, e2⟩ => by subst e1; subst e2; exact ⟨l, rfl, hl, q⟩) hk
noncomputable abbrev wordsOf (m f l : List Nat) : List Nat := m ++ [32, 40] ++ f ++ [44, 32, 108, 105, 110, 101, 32] ++ l ++ [41]
theorem strErr {hp : List O} {m f l : V} {lm lf ll : List Nat} {e n : Nat} {a : V} {b : Bool} {k : Nat} (Z : ErrK c.K C aI aD aS) (h1 : hp[e]? = some (.exc C (some n) a b)) (h2 : hp[n]? = some (ens f l m))
    (hm : Showable c C aS hp k m lm) (hf : Showable c C aS hp k f lf) (hl : Showable c C aS hp k l ll) (hz : (wordsOf lm lf ll).length ≤ 100000) (vm : m.handed = true) (vf : f.handed = true) (vl : l.handed = true) :
    FV c (k + 1) (.top aS) [.ref e] hp (fun v hp' => v = .str (wordsOf lm lf ll) ∧ hp' = hp) := by
  have zs : ∀ n, n ≤ 100000 → n ≤ sizeLine := fun n hn => Nat.le_trans hn (by decide)
  simp only [wordsOf, List.length_append, List.length_cons, List.length_nil] at hz
  refine FV.fn Z.fS (ns := ["self"]) (fun _ _ _ _ xs h => by obtain ⟨_, rfl⟩ := len1 h; rfl) rfl (by decide) (by decide +kernel) (by decide +kernel) fun Lo cd ρ₀ hρ => ?_
  refine XV.cons ?_
  refine XV.ret ?_
  refine EV.joined ?_
  refine EJ.cons ?_
  refine EV.fmtS ?_
  refine EV.attrE ?_
  refine EV.var rfl ?_
  refine ⟨e, C, n, a, b, _, m, rfl, h1, h2, rfl, Z.cls, Z.a3, vm, ?_⟩
  refine hm.fmt Z (zs _ (by omega)) (Nat.le_refl _) ?_
  refine ⟨lm, rfl, zs _ (by simp only [List.length_append, List.length_nil]; omega), ?_⟩
  refine EJ.cons ?_
  refine EV.cstr (l := [32, 40]) ?_
  refine ⟨_, rfl, zs _ (by simp only [List.length_append, List.length_cons, List.length_nil]; omega), ?_⟩
  refine EJ.cons ?_
  refine EV.fmtS ?_
  refine EV.attrE ?_
  refine EV.var rfl ?_
  refine ⟨e, C, n, a, b, _, f, rfl, h1, h2, rfl, Z.cls, Z.a1, vf, ?_⟩
  refine hf.fmt Z (zs _ (by omega)) (Nat.le_refl _) ?_
  refine ⟨lf, rfl, zs _ (by simp only [List.length_append, List.length_cons, List.length_nil]; omega), ?_⟩
  refine EJ.cons ?_
  refine EV.cstr (l := [44, 32, 108, 105, 110, 101, 32]) ?_
  refine ⟨_, rfl, zs _ (by simp only [List.length_append, List.length_cons, List.length_nil]; omega), ?_⟩
  refine EJ.cons ?_
  refine EV.fmtS ?_
  refine EV.attrE ?_
  refine EV.var rfl ?_
  refine ⟨e, C, n, a, b, _, l, rfl, h1, h2, rfl, Z.cls, Z.a2, vl, ?_⟩
  refine hl.fmt Z (zs _ (by omega)) (Nat.le_refl _) ?_
  refine ⟨ll, rfl, zs _ (by simp only [List.length_append, List.length_cons, List.length_nil]; omega), ?_⟩
  refine EJ.cons ?_
  refine EV.cstr (l := [41]) ?_
  refine ⟨_, rfl, zs _ (by simp only [List.length_append, List.length_cons, List.length_nil]; omega), ?_⟩
  refine EJ.nil ?_
  exact ⟨by simp [wordsOf], rfl⟩
end
end Mine
namespace Mine
open PySem PySem.W PyProof.Rows PySem.SeqAt
structure FigK (K : Frag) (aF : Addr) : Prop where
  gF : nsIn K mainGlobals "_law_figures" = some (some (.ref aF))
  kF : keepIn K (.ref aF) = true
  fF : FnK K aF "_law_figures" (stmt 3)
  gLen : nsIn K mainGlobals "len" = some none
  gAbs : nsIn K mainGlobals "abs" = some none
section
variable {c : Cx} {C aI aR aG aF : Addr}
structure Scr (c : Cx) (a : Addr) (xs : List Value) (vs : List V) : Prop where
  lst : c.H₀.IsList a xs.toArray
  rel : ∀ ρ h, VRs ρ h vs xs
  nums : ∀ v ∈ vs, ∃ i : Int, v = .int i
noncomputable def ivs (F : List Nat) : List V := F.map fun f => .int (f : Nat)
theorem ivs_len (F : List Nat) : (ivs F).length = F.length := List.length_map _
theorem ap1 {hp : List O} {a : O} {r : List O} : (hp ++ a :: r)[hp.length]? = some a := by rw [List.getElem?_append_right (by omega)]; simp
theorem as1 {hp : List O} {a x : O} {r : List O} : (hp ++ a :: r).set hp.length x = hp ++ x :: r := by rw [List.set_append_right _ _ (by omega)]; simp
structure FgI (hp : List O) (F : List Nat) (σ : St) : Prop where
  fig : at_ σ.loc "figures" = some (.ref hp.length)
  len : F.length ≤ 40
  lt : ∀ f ∈ F, f < 24
  hp : σ.hp = hp ++ [.list (ivs F)]
theorem FgI.put {hp : List O} {F : List Nat} {σ : St} {x : Str} {v : V} (I : FgI hp F σ) (h : (("figures" : Str) == x) = false) : FgI hp F ⟨Mine.put x v σ.loc, σ.hp⟩ :=
  ⟨lk_ne I.fig h, I.len, I.lt, I.hp⟩
theorem lawFigures {hp : List O} {a : Addr} {xs : List Value} {vs : List V} (L : FigK c.K aF) (S : Scr c a xs vs) :
    FV c 2 (.top aF) [.top a] hp (fun v hp' => ∃ (F : List Nat) (i : Nat) (g : List O), v = .ref i ∧ hp' = hp ++ g ∧ hp'[i]? = some (.list (ivs F)) ∧ hp.length ≤ i ∧ F.length ≤ 40 ∧ F ≠ [] ∧ ∀ f ∈ F, f < 24) := by
  refine FV.fn L.fF (ns := ["script"]) (fun _ _ _ _ xs h => by match xs, h with | [x], _ => rfl) rfl (by decide) (by decide +kernel) (by decide +kernel) fun Lo cd ρ₀ hρ => ?_
  refine XV.cons ?_
  refine XV.assign ?_
  refine EV.list ?_
  refine EVs.nil ⟨(show (0 : Nat) ≤ 1000 by decide), ?_⟩
  refine XV.st2 (loc' := [("script", .top a), ("figures", .ref hp.length)]) (hp' := hp ++ [.list (ivs [])]) rfl rfl ?_
  refine XV.cons ?_
  refine XV.forS ?_
  refine EV.var rfl ⟨_, _, _, Src.base S.lst S.rel, fun i σ => ∃ F, FgI hp F σ, ⟨[], rfl, by simp, by simp, rfl⟩, fun _ _ _ => trivial, ?_, ?_⟩
  · intro ρ₁ hρ₁ i σ hi ⟨F, I⟩
    obtain ⟨x, hx⟩ := S.nums (vs.getD i .none) (by rw [List.getD_eq_getElem?_getD, List.getElem?_eq_getElem hi]; exact List.getElem_mem hi)
    rw [hx]
    refine OU1.name ?_
    have I := I.put (x := "x") (v := .int x) (by decide)
    refine XV.cons ?_
    refine XV.assign ?_
    refine EV.binop ?_
    refine EV.callB L.gAbs Boot.«abs» (by decide) ?_
    refine EVs.cons ?_
    refine EV.var lk_eq ?_
    refine EVs.nil ?_
    refine OVs.abs ?_
    refine EV.binop ?_
    refine EV.cint ?_
    refine EV.cint ?_
    refine OV2.pow_int (by decide) (by decide) (by decide) ?_
    refine OV2.mod_int (by decide) ?_
    have hr := Int.fmod_nonneg_of_pos (if x < 0 then -x else x) (b := (24 : Int) ^ (40 : Int).toNat) (by decide)
    generalize (if x < 0 then -x else x).fmod ((24 : Int) ^ (40 : Int).toNat) = r at hr ⊢
    have I := I.put (x := "rest") (v := .int r) (by decide)
    refine XV.cons ?_
    refine XV.whileB (fun n σ => ∃ F r, n + F.length = 40 ∧ 0 ≤ r ∧ FgI hp F σ ∧ at_ σ.loc "rest" = some (.int r)) (40 - F.length) ⟨F, r, by have := I.len; omega, hr, I, lk_eq⟩ ?_
    intro n σ₁ ⟨F₁, r₁, hn, hr₁, I₁, hrest⟩
    have hh := I₁.hp
    have hc1 : σ₁.hp[hp.length]? = some (.list (ivs F₁)) := by rw [hh]; exact ap1
    refine TV.cmp ?_
    refine EV.callB L.gLen Boot.«len» (by decide) ?_
    refine EVs.cons ?_
    refine EV.var I₁.fig ?_
    refine EVs.nil ?_
    refine OVs.len_list hc1 (by rw [ivs_len]; have := I₁.len; omega) ?_
    refine EV.cint ?_
    refine OV2.lt_int ⟨_, rfl, fun hlt => ?_, fun hlt => ?_⟩
    · have hlt : F₁.length < 40 := by have := of_decide_eq_true hlt; rw [ivs_len] at this; omega
      have h0 : 0 ≤ r₁.fmod 24 := Int.fmod_nonneg_of_pos _ (by decide)
      have h34 : r₁.fmod 24 < 24 := Int.fmod_lt_of_pos _ (by decide)
      obtain ⟨z, hz⟩ : ∃ z : Nat, r₁.fmod 24 = z := ⟨(r₁.fmod 24).toNat, by omega⟩
      refine XV.cons ?_
      refine XV.expr ?_
      refine EV.append ?_
      refine EV.var I₁.fig ⟨⟨_, _, rfl, hc1⟩, ?_⟩
      refine EVs.cons ?_
      refine EV.binop ?_
      refine EV.var hrest ?_
      refine EV.cint ?_
      refine OV2.mod_int (by decide) ?_
      rw [hz]
      refine EVs.nil ?_
      refine OVs.append hc1 (by rw [ivs_len]; omega) ?_
      have I₂ : FgI hp (F₁ ++ [z]) ⟨σ₁.loc, σ₁.hp.set hp.length (.list (ivs F₁ ++ [.int z]))⟩ :=
        ⟨I₁.fig, by simp; omega, fun y hy => by
          rcases List.mem_append.mp hy with hy | hy
          · exact I₁.lt y hy
          · rw [List.mem_singleton] at hy; subst hy; omega, by show List.set _ _ _ = _; rw [hh, as1]; simp [ivs]⟩
      refine XV.cons ?_
      refine XV.aug hrest ?_
      refine EV.cint ?_
      refine OV2.ifdiv_int (by decide) (PyProof.noPylong_of_log2 (by decide +kernel)) ?_
      have I₃ := I₂.put (x := "rest") (v := .int (r₁.fdiv 24)) (by decide)
      refine XV.cons ?_
      refine XV.ifB ?_
      refine TV.cmp ?_
      refine EV.var lk_eq ?_
      refine EV.cint ?_
      refine OV2.eq_int ⟨_, rfl, fun h => ?_, fun h => ?_⟩
      · exact XV.cons (XV.brk (XV.nil ⟨_, I₃⟩))
      · exact XV.nil (XV.nil ⟨n - 1, by omega, _, _, by simp; omega, Int.fdiv_nonneg hr₁ (by decide), I₃, lk_eq⟩)
    · exact XV.nil ⟨_, I₁⟩
  · intro σ ⟨F, I⟩
    have hh := I.hp
    refine XV.cons ?_
    refine XV.ret ?_
    refine EV.ifB ?_
    refine TV.cmp ?_
    refine EV.var I.fig ?_
    refine EV.list ?_
    refine EVs.nil ⟨(show (0 : Nat) ≤ 1000 by decide), ?_⟩
    have hn : (σ.hp ++ [O.list []])[σ.hp.length]? = some (.list []) := ap1
    refine OV2.ne_nil (vs := ivs F) (by rw [hh]; exact app_get ap1) hn ⟨_, rfl, fun h => ?_, fun h => ?_⟩
    · refine EV.var I.fig ?_
      refine ⟨F, _, [.list (ivs F), .list []], rfl, ?_, ?_, by omega, by have := I.len; omega, fun e => ?_, I.lt⟩
      · show σ.hp ++ [O.list []] = _
        rw [hh]; simp
      · show (σ.hp ++ [O.list []])[_]? = _
        rw [hh]; exact app_get ap1
      · rw [e] at h; cases h
    · refine EV.list ?_
      refine EVs.cons ?_
      refine EV.cint ?_
      refine EVs.cons ?_
      refine EV.cint ?_
      refine EVs.cons ?_
      refine EV.cint ?_
      refine EVs.cons ?_
      refine EV.cint ?_
      refine EVs.cons ?_
      refine EV.cint ?_
      refine EVs.cons ?_
      refine EV.cint ?_
      refine EVs.cons ?_
      refine EV.cint ?_
      refine EVs.cons ?_
      refine EV.cint ?_
      refine EVs.cons ?_
      refine EV.cint ?_
      refine EVs.nil ⟨(show (9 : Nat) ≤ 1000 by decide), ?_⟩
      refine ⟨[0, 5, 2, 3, 1, 7, 7, 3, 10], _, [.list (ivs F), .list [], .list (ivs [0, 5, 2, 3, 1, 7, 7, 3, 10])], rfl, ?_, ap1, ?_, by decide, by decide, by decide⟩
      · show σ.hp ++ [O.list []] ++ [_] = _
        rw [hh]; simp; rfl
      · show hp.length ≤ (σ.hp ++ [O.list []]).length
        rw [hh]; simp
end
end Mine
namespace Mine
open PySem PySem.W PyProof.Rows PySem.SeqAt
noncomputable def digT (n : Nat) : List Nat := (Nat.toDigits 10 n).map Char.toNat
theorem digit_sign : ∀ d : Nat, d < 10 → (Nat.digitChar d).toNat = 48 + d := by decide
theorem digT_lt {n : Nat} (h : n < 10) : digT n = [48 + n] := by unfold digT; rw [Nat.toDigits_of_lt_base h]; simp [digit_sign n h]
theorem digT_ge {n : Nat} (h : 10 ≤ n) : digT n = digT (n / 10) ++ [48 + n % 10] := by
  unfold digT
  have hm : n % 10 < 10 := Nat.mod_lt n (by decide)
  rw [Nat.toDigits_eq_if (by decide) (n := n), if_neg (by omega), List.map_append]
  simp [digit_sign _ hm]
theorem digT_len : ∀ (k n : Nat), n < 10 ^ (k + 1) → (digT n).length ≤ k + 1
  | 0, n, h => by rw [digT_lt (by simpa using h)]; simp
  | k + 1, n, h => by
    by_cases hn : n < 10
    · rw [digT_lt hn]; simp
    · rw [digT_ge (by omega), List.length_append]
      have := digT_len k (n / 10) (by rw [Nat.div_lt_iff_lt_mul (by decide)]; rw [Nat.pow_succ] at h; exact h)
      simp; omega
noncomputable def digI (i : Int) : List Nat := txtOf (toString i)
theorem digI_nat (n : Nat) : digI n = digT n := KIN.signs_num n
theorem digI_neg (n : Nat) : digI (Int.negSucc n) = 45 :: digT (n + 1) := by
  have h := KIN.signs_num (n + 1)
  have e : ∀ s : String, txtOf s = s.toList.map Char.toNat := fun s => signs_ofString s
  show txtOf (toString (Int.negSucc n)) = _
  rw [e]
  show ("-" ++ Nat.repr (n + 1)).toList.map Char.toNat = _
  rw [String.toList_append, Nat.toList_repr]
  rfl
theorem digI_neg' {i : Int} (h : i < 0) : digI i = 45 :: digI (-i) := by
  obtain ⟨n, rfl⟩ : ∃ n, i = Int.negSucc n := by
    cases i with
    | ofNat n => simp at h; omega
    | negSucc n => exact ⟨n, rfl⟩
  rw [digI_neg, Int.neg_negSucc, digI_nat]
structure DigK (K : Frag) (aD : Addr) : Prop where
  g : nsIn K mainGlobals "_law_digits" = some (some (.ref aD))
  k : keepIn K (.ref aD) = true
  f : FnK K aD "_law_digits" (stmt 4)
section
variable {c : Cx} {aD : Addr}
theorem lawDigitsN {hp : List O} {n : Nat} (D : DigK c.K aD) (hl : (digT n).length ≤ 1000) : FV c 2 (.top aD) [.int n] hp (fun v hp' => v = .str (digT n) ∧ hp' = hp) := by
  refine FV.fn D.f (ns := ["number"]) (fun _ _ _ _ xs h => by obtain ⟨_, rfl⟩ := len1 h; rfl) rfl (by decide) (by decide +kernel) (by decide +kernel) fun Lo cd ρ₀ hρ => ?_
  refine XV.cons ?_
  refine XV.ifB ?_
  refine TV.cmp ?_
  refine EV.var rfl ?_
  refine EV.cint ?_
  refine OV2.lt_int ⟨_, rfl, fun h => absurd (of_decide_eq_true h) (by omega), fun _ => ?_⟩
  refine XV.nil ?_
  have dig : ∀ m : Nat, ([48, 49, 50, 51, 52, 53, 54, 55, 56, 57] : List Nat)[((m : Int).fmod 10).toNat]? = some (48 + m % 10) := fun m => by
    have e : ((m : Int).fmod 10).toNat = m % 10 := by rw [Int.fmod_eq_emod_of_nonneg _ (by decide)]; omega
    rw [e]
    have := Nat.mod_lt m (show 0 < 10 by decide)
    generalize m % 10 = r at this
    match r, this with
    | 0, _ | 1, _ | 2, _ | 3, _ | 4, _ | 5, _ | 6, _ | 7, _ | 8, _ | 9, _ => rfl
    | r + 10, h => exact absurd h (by omega)
  have h0 : ∀ m : Nat, 0 ≤ (m : Int).fmod 10 := fun m => Int.fmod_nonneg_of_pos _ (by decide)
  refine XV.cons ?_
  refine XV.assign ?_
  refine EV.sub ?_
  refine EV.cstr (l := [48, 49, 50, 51, 52, 53, 54, 55, 56, 57]) ?_
  refine EV.binop ?_
  refine EV.var rfl ?_
  refine EV.cint ?_
  refine OV2.mod_int (by decide) ?_
  refine OV2.itemS (h0 n) (dig n) (by decide) ?_
  refine XV.cons ?_
  refine XV.whileB (fun m σ => ∃ t, at_ σ.loc "number" = some (.int (m : Nat)) ∧ at_ σ.loc "text" = some (.str t) ∧ digT n = (if m < 10 then [] else digT (m / 10)) ++ t ∧ σ.hp = hp) n ⟨[48 + n % 10], rfl, rfl, ?_, rfl⟩ ?_
  · by_cases hn : n < 10
    · rw [if_pos hn, digT_lt hn, Nat.mod_eq_of_lt hn]; rfl
    · rw [if_neg hn, digT_ge (by omega)]
  · intro m σ ⟨t, e1, e2, e3, e4⟩
    refine TV.cmp ?_
    refine EV.var e1 ?_
    refine EV.cint ?_
    refine OV2.gt_int ⟨_, rfl, fun h => ?_, fun h => ?_⟩
    · have h := of_decide_eq_true h
      have hm : 10 ≤ m := by omega
      rw [if_neg (by omega)] at e3
      have em : (m : Int).fdiv 10 = ((m / 10 : Nat) : Int) := by rw [Int.fdiv_eq_ediv_of_nonneg _ (by decide)]; omega
      refine XV.cons ?_
      refine XV.aug e1 ?_
      refine EV.cint ?_
      refine OV2.ifdiv_int (by decide) (PyProof.noPylong_of_log2 (by decide +kernel)) ?_
      rw [em]
      refine XV.cons ?_
      refine XV.assign ?_
      refine EV.binop ?_
      refine EV.sub ?_
      refine EV.cstr (l := [48, 49, 50, 51, 52, 53, 54, 55, 56, 57]) ?_
      refine EV.binop ?_
      refine EV.var lk_eq ?_
      refine EV.cint ?_
      refine OV2.mod_int (by decide) ?_
      refine OV2.itemS (h0 (m / 10)) (dig (m / 10)) (by decide) ?_
      refine EV.var (lk_ne e2 (by decide)) ?_
      have ht : t.length ≤ 1000 := by rw [e3, List.length_append] at hl; omega
      refine OV2.add_str (Nat.le_trans (show 1 + t.length ≤ 2000 by omega) (by decide)) ?_
      refine XV.nil ⟨m / 10, by omega, _, lk_ne lk_eq (by decide), lk_eq, ?_, e4⟩
      rw [e3]
      by_cases hd : m / 10 < 10
      · rw [if_pos hd, digT_lt hd, Nat.mod_eq_of_lt hd]; rfl
      · rw [if_neg hd, digT_ge (n := m / 10) (by omega), List.append_assoc]
    · have h := of_decide_eq_false h
      rw [if_pos (by omega)] at e3
      refine XV.cons ?_
      refine XV.ret ?_
      refine EV.var e2 ?_
      exact ⟨by rw [e3]; rfl, e4⟩
theorem lawDigits {hp : List O} {i : Int} (D : DigK c.K aD) (hl : (digT i.natAbs).length ≤ 1000) : FV c 3 (.top aD) [.int i] hp (fun v hp' => v = .str (digI i) ∧ hp' = hp) := by
  by_cases hi : i < 0
  · refine FV.fn D.f (ns := ["number"]) (fun _ _ _ _ xs h => by obtain ⟨_, rfl⟩ := len1 h; rfl) rfl (by decide) (by decide +kernel) (by decide +kernel) fun Lo cd ρ₀ hρ => ?_
    obtain ⟨n, hn⟩ : ∃ n : Nat, -i = n := ⟨(-i).toNat, by omega⟩
    have en : i.natAbs = n := by omega
    refine XV.cons ?_
    refine XV.ifB ?_
    refine TV.cmp ?_
    refine EV.var rfl ?_
    refine EV.cint ?_
    refine OV2.lt_int ⟨_, rfl, fun _ => ?_, fun h => absurd (of_decide_eq_false h) (by omega)⟩
    refine XV.cons ?_
    refine XV.ret ?_
    refine EV.binop ?_
    refine EV.cstr (l := [45]) ?_
    refine EV.call 2 D.g D.k ?_
    refine EVs.cons ?_
    refine EV.unary ?_
    refine EV.var rfl ?_
    refine OV1.neg_int ?_
    refine EVs.nil ?_
    rw [hn]
    refine (lawDigitsN D (by rw [← en]; exact hl)).mono fun v hp' ⟨e1, e2⟩ => ?_
    subst e1; subst e2
    refine OV2.add_str (Nat.le_trans (show 1 + (digT n).length ≤ 2000 by rw [← en]; omega) (by decide)) ?_
    exact ⟨by rw [digI_neg' hi, hn, digI_nat]; rfl, rfl⟩
  · obtain ⟨n, rfl⟩ : ∃ n : Nat, i = n := ⟨i.toNat, by omega⟩
    exact ((lawDigitsN D hl).le (by decide)).mono fun v hp' ⟨e1, e2⟩ => ⟨by rw [e1, digI_nat]; rfl, e2⟩
end
end Mine
namespace Mine
open PySem PySem.W PyProof.Rows PySem.SeqAt
section
variable {c : Cx} {d k : Nat} {fx : Fx} {ρ ρ' ρ'' : List Addr} {σ σ' : St} {h h' h'' : Heap} {s s' s₁ : Shared} {A : Around} {Q : V → St → Prop} {X : Fl → St → Prop}
  {loc loc' : List (Str × V)} {hp hp' : List O}
theorem OVs.listTup {vs : List V} (hl : vs.length ≤ 1000) (q : Q (.ref σ.hp.length) ⟨σ.loc, σ.hp ++ [.list vs]⟩) : OVs c d fx (fun xs => PySem.call (.type "list") xs) [.tup vs] σ Q := fun ρ s A xs R r va => by
  obtain ⟨loc, hp⟩ := σ
  cases va using VRs.consC with
  | cons v1 v2 =>
    cases v2 using VRs.nilC
    cases v1 using VR.tupC with
    | tup e hv =>
      rename_i a ys n
      refine call_list_seq a (T := "tuple") (.inr rfl) e rfl rfl (fun h' c' hkeep hS => ?_) (by rw [List.size_toArray, ← hv.length, sizeLine_eq]; omega)
      have hr' : RelS c fx ρ ⟨loc, hp⟩ { s with heap := h' } := ⟨r.1.ext hkeep, r.2⟩
      have hfr : ∀ b o, s.heap.get? b = some o → b ≠ s.heap.objs.size := fun b o e => Nat.ne_of_lt (Heap.lt_size e)
      refine ⟨ρ ++ [s.heap.objs.size], .ref hp.length, ⟨loc, hp ++ [.list vs]⟩, pre_snoc .., ⟨fun x m => ?_, fun b o _ e => hkeep b o e⟩, ⟨?_, r.2⟩, .ref ?_, q⟩
      · rcases List.mem_append.mp m with m | m
        · exact .inl m
        · rw [List.mem_singleton] at m; subst m; exact .inr (get_none_of_lt (Nat.le_refl _))
      · exact hr'.1.adopt hS (fun m => by
          obtain ⟨_, _, y, _, _, e, _⟩ := r.1.toHRel.mem m
          exact hfr _ _ e rfl) (r.1.size₀ (Nat.le_refl _)) (by
          obtain ⟨y, e⟩ := r.1.hasL
          exact hfr _ _ e) ⟨_, _, rfl, hv.mono (pre_snoc ..) fun b o _ e => hkeep b o e⟩
      · rw [← r.1.len, List.getElem?_append_right (Nat.le_refl _)]; simp
theorem OV2.neL_like {i j : Nat} {vs us : List V} {n : Nat} (h1 : σ.hp[i]? = some (.list vs)) (h2 : σ.hp[j]? = some (.list us)) (hn : n < 50) (l : Likes σ.hp n vs us) (q : Q (.bool false) σ) : OV2 c d fx (compareOp .NotEq) (.ref i) (.ref j) σ Q := fun ρ s A x y R r vx vy => by
  cases vx using VR.refC with
  | ref ha => cases vy using VR.refC with
    | ref hb =>
      obtain ⟨a, xs, m, g1, g2, g3, g4⟩ := r.1.toHRel.list h1
      obtain ⟨b, ys, m', k1, k2, k3, k4⟩ := r.1.toHRel.list h2
      rw [g1] at ha; cases ha
      rw [k1] at hb; cases hb
      have hl : xs.toArray.size = ys.toArray.size := by simp [← g3.length, ← k3.length, l.length]
      have hu := R.units
      have := RcNeAt.lists (A := A) (s := s) (e := fun _ => true) g4 k4 hl R.c
        (fun j h1 h2 => by
          have := Likes.eqAt r.1.toHRel l _ _ A.in1 (by simp only [Around.in1_units]; unfold cLine; omega) g3 k3 j (by simpa using h1) (by simpa using h2)
          simpa using this)
      rw [all_true] at this
      exact this _ _ _ _ (Post.same r rfl rfl rfl (.bool _) q)
end
end Mine
namespace Mine
open PySem PySem.W PyProof.Rows PySem.SeqAt
inductive Spec where
  | err (i : Nat)
  | nul
  | num (i : Int)
  | txt (l : List Nat)
noncomputable abbrev sErr : List Nat := [101, 114, 114, 111, 114]
noncomputable abbrev sPlain : List Nat := [112, 108, 97, 105, 110]
noncomputable def Spec.v : Spec → V
  | .err i => .tup [.str sErr, .int i, .str []]
  | .nul => .tup [.str sPlain, .none, .str [78, 111, 110, 101]]
  | .num i => .tup [.str sPlain, .int i, .str (digI i)]
  | .txt l => .tup [.str sPlain, .str l, .str l]
noncomputable def Spec.ok (b : Nat) : Spec → Prop
  | .err i => i < b
  | .nul => True
  | .num i => i.natAbs < 10 ^ 10
  | .txt l => l.length ≤ 7
theorem Spec.ok.le {b b' : Nat} (h : b ≤ b') : ∀ {s : Spec}, s.ok b → s.ok b'
  | .err _, k => Nat.lt_of_lt_of_le k h
  | .nul, _ => trivial
  | .num _, k => k
  | .txt _, k => k
structure SpcK (K : Frag) (aS aV : Addr) : Prop where
  gS : nsIn K mainGlobals "_law_spec" = some (some (.ref aS))
  kS : keepIn K (.ref aS) = true
  fS : FnK K aS "_law_spec" (stmt 5)
  gV : nsIn K mainGlobals "_law_value" = some (some (.ref aV))
  kV : keepIn K (.ref aV) = true
  fV : FnK K aV "_law_value" (stmt 6)
noncomputable abbrev pieces : List (List Nat) := [[110], [37, 115], [32, 40], [44, 32, 108, 105, 110, 101, 32], [49, 48, 48, 37], []]
section
variable {c : Cx} {aD aS aV : Addr}
theorem fm (a : Nat) {b : Nat} : ((a : Int).fmod (b : Int)) = ((a % b : Nat) : Int) := by rw [Int.fmod_eq_emod_of_nonneg _ (by omega)]; omega
theorem fd (a : Nat) {b : Nat} : ((a : Int).fdiv (b : Int)) = ((a / b : Nat) : Int) := by rw [Int.fdiv_eq_ediv_of_nonneg _ (by omega)]; omega
theorem natNe {a b : Nat} (h : ((a : Int) == (b : Int)) = false) : a ≠ b := fun e => by subst e; simp at h
theorem lawSpec {hp : List O} {f b : Nat} (D : DigK c.K aD) (S : SpcK c.K aS aV) (hf : f < 24) (hb : b < 1000) :
    FV c 4 (.top aS) [.int f, .int b] hp (fun v hp' => ∃ sp g, v = Spec.v sp ∧ sp.ok b ∧ hp' = hp ++ g) := by
  refine FV.fn S.fS (ns := ["figure", "below"]) (fun _ _ _ _ xs h => by obtain ⟨_, _, rfl⟩ := len2 h; rfl) rfl (by decide) (by decide +kernel) (by decide +kernel) fun Lo cd ρ₀ hρ => ?_
  have h4 : f / 4 < 6 := by omega
  refine XV.cons ?_
  refine XV.ifB ?_
  refine TV.andB ?_
  refine TV.cmp ?_
  refine EV.binop ?_
  refine EV.var rfl ?_
  refine EV.cint ?_
  refine OV2.mod_int (by decide) ?_
  rw [show ((f : Int).fmod 4) = ((f % 4 : Nat) : Int) from fm f (b := 4)]
  refine EV.cint ?_
  have after : XV c 3 ⟨envX "_law_spec" (fScope (stmt 5)) Lo aS cd [], [], ρ₀⟩ (execs ((fBody (stmt 5)).drop 1) (envX "_law_spec" (fScope (stmt 5)) Lo aS cd [])) ⟨[("figure", .int f), ("below", .int b)], hp⟩
      (retQ fun v hp' => ∃ sp g, v = Spec.v sp ∧ sp.ok b ∧ hp' = hp ++ g) := by
    refine XV.cons ?_
    refine XV.ifB ?_
    refine TV.cmp ?_
    refine EV.binop ?_
    refine EV.var rfl ?_
    refine EV.cint ?_
    refine OV2.mod_int (by decide) ?_
    refine EV.cint ?_
    refine OV2.eq_int ⟨_, rfl, fun h2 => ?_, fun h2 => ?_⟩
    · refine XV.cons ?_
      refine XV.ret ?_
      refine EV.tuple ?_
      refine EVs.cons ?_
      refine EV.cstr (l := sPlain) ?_
      refine EVs.cons ?_
      refine EV.cnone ?_
      refine EVs.cons ?_
      refine EV.cstr (l := [78, 111, 110, 101]) ?_
      refine EVs.nil ⟨(show (3 : Nat) ≤ 1000 by decide), ?_⟩
      exact ⟨.nul, [], rfl, trivial, by simp⟩
    refine XV.nil ?_
    refine XV.cons ?_
    refine XV.ifB ?_
    refine TV.cmp ?_
    refine EV.binop ?_
    refine EV.var rfl ?_
    refine EV.cint ?_
    refine OV2.mod_int (by decide) ?_
    refine EV.cint ?_
    refine OV2.eq_int ⟨_, rfl, fun h1 => ?_, fun h1 => ?_⟩
    · have hz : (((f : Int) - 12) ^ (9 : Int).toNat).natAbs < 10 ^ 10 := by
        show (((f : Int) - 12) ^ 9).natAbs < 10 ^ 10
        rw [Int.natAbs_pow]
        have : ((f : Int) - 12).natAbs ≤ 12 := by omega
        exact Nat.lt_of_le_of_lt (Nat.pow_le_pow_left this 9) (by decide)
      refine XV.cons ?_
      refine XV.assign ?_
      refine EV.binop ?_
      refine EV.binop ?_
      refine EV.var rfl ?_
      refine EV.cint ?_
      refine OV2.sub_int ?_
      refine EV.cint ?_
      refine OV2.pow_int (by decide) (by decide) (by omega) ?_
      generalize ((f : Int) - 12) ^ (9 : Int).toNat = z at hz
      refine XV.cons ?_
      refine XV.ret ?_
      refine EV.tuple ?_
      refine EVs.cons ?_
      refine EV.cstr (l := sPlain) ?_
      refine EVs.cons ?_
      refine EV.var rfl ?_
      refine EVs.cons ?_
      refine EV.call 3 D.g D.k ?_
      refine EVs.cons ?_
      refine EV.var rfl ?_
      refine EVs.nil ?_
      refine (lawDigits D (Nat.le_trans (digT_len 9 _ hz) (by decide))).mono fun v hp' ⟨e1, e2⟩ => ?_
      subst e1; subst e2
      refine EVs.nil ⟨(show (3 : Nat) ≤ 1000 by decide), ?_⟩
      exact ⟨.num z, [], rfl, hz, by simp⟩
    refine XV.nil ?_
    refine XV.cons ?_
    refine XV.assign ?_
    refine EV.sub ?_
    refine EV.list ?_
    refine EVs.cons ?_
    refine EV.cstr (l := [110]) ?_
    refine EVs.cons ?_
    refine EV.cstr (l := [37, 115]) ?_
    refine EVs.cons ?_
    refine EV.cstr (l := [32, 40]) ?_
    refine EVs.cons ?_
    refine EV.cstr (l := [44, 32, 108, 105, 110, 101, 32]) ?_
    refine EVs.cons ?_
    refine EV.cstr (l := [49, 48, 48, 37]) ?_
    refine EVs.cons ?_
    refine EV.cstr (l := []) ?_
    refine EVs.nil ⟨(show (6 : Nat) ≤ 1000 by decide), ?_⟩
    refine EV.binop ?_
    refine EV.var rfl ?_
    refine EV.cint ?_
    refine OV2.fdiv_int (by decide) (PyProof.noPylong_of_log2 (by decide +kernel)) ?_
    rw [show ((f : Int).fdiv 4) = ((f / 4 : Nat) : Int) from fd f (b := 4)]
    obtain ⟨l, hl, hle⟩ : ∃ l, pieces[f / 4]? = some l ∧ l.length ≤ 7 := by
      generalize f / 4 = r at h4
      match r, h4 with
      | 0, _ | 1, _ | 2, _ | 3, _ | 4, _ | 5, _ => exact ⟨_, rfl, by decide⟩
      | r + 6, h => exact absurd h (by omega)
    refine OV2.item (vs := pieces.map V.str) ga (by omega) (v := .str l) (by rw [show (((f / 4 : Nat) : Int)).toNat = f / 4 by omega, List.getElem?_map, hl]; rfl) (by decide) ?_
    refine XV.cons ?_
    refine XV.ret ?_
    refine EV.tuple ?_
    refine EVs.cons ?_
    refine EV.cstr (l := sPlain) ?_
    refine EVs.cons ?_
    refine EV.var rfl ?_
    refine EVs.cons ?_
    refine EV.var rfl ?_
    refine EVs.nil ⟨(show (3 : Nat) ≤ 1000 by decide), ?_⟩
    exact ⟨.txt l, _, rfl, hle, rfl⟩
  refine OV2.eq_int ⟨_, rfl, fun h3 => ?_, fun _ => ⟨fun h => (by cases h), fun _ => (by refine XV.nil ?_; exact after)⟩⟩
  refine TV.andB ?_
  refine TV.cmp ?_
  refine EV.var rfl ?_
  refine EV.cint ?_
  refine OV2.gt_int ⟨_, rfl, fun h => ?_, fun _ => ⟨fun h => (by cases h), fun _ => (by refine XV.nil ?_; exact after)⟩⟩
  have h := of_decide_eq_true h
  have hb0 : 0 < b := by omega
  refine TV.and0 ⟨fun _ => ?_, fun h => (by cases h)⟩
  refine XV.cons ?_
  refine XV.ret ?_
  refine EV.tuple ?_
  refine EVs.cons ?_
  refine EV.cstr (l := sErr) ?_
  refine EVs.cons ?_
  refine EV.binop ?_
  refine EV.binop ?_
  refine EV.var rfl ?_
  refine EV.cint ?_
  refine OV2.fdiv_int (by decide) (PyProof.noPylong_of_log2 (by decide +kernel)) ?_
  rw [show ((f : Int).fdiv 4) = ((f / 4 : Nat) : Int) from fd f (b := 4)]
  refine EV.var rfl ?_
  refine OV2.mod_int (by omega) ?_
  rw [fm (f / 4) (b := b)]
  refine EVs.cons ?_
  refine EV.cstr (l := []) ?_
  refine EVs.nil ⟨(show (3 : Nat) ≤ 1000 by decide), ?_⟩
  exact ⟨.err (f / 4 % b), [], rfl, Nat.mod_lt _ hb0, by simp⟩
noncomputable def valOf (es : List Nat) : Spec → V
  | .err i => .ref (es.getD i 0)
  | .nul => .none
  | .num i => .int i
  | .txt l => .str l
noncomputable abbrev refs (l : List Nat) : List V := l.map V.ref
theorem lawValue {hp : List O} {sp : Spec} {es : List Nat} {j : Nat} (S : SpcK c.K aS aV) (he : hp[j]? = some (.list (refs es))) (hs : sp.ok es.length) (hl : es.length < 100000) :
    FV c 2 (.top aV) [sp.v, .ref j] hp (fun v hp' => v = valOf es sp ∧ hp' = hp) := by
  refine FV.fn S.fV (ns := ["spec", "errors"]) (fun _ _ _ _ xs h => by obtain ⟨_, _, rfl⟩ := len2 h; rfl) rfl (by decide) (by decide +kernel) (by decide +kernel) fun Lo cd ρ₀ hρ => ?_
  refine XV.cons ?_
  refine XV.ret ?_
  refine EV.ifB ?_
  refine TV.cmp ?_
  refine EV.sub ?_
  refine EV.var rfl ?_
  refine EV.cint ?_
  cases sp with
  | err i =>
    have hi : i < es.length := hs
    refine OV2.itemT (by decide) rfl (show (3 : Nat) < 2 ^ 62 by decide) ?_
    refine EV.cstr (l := sErr) ?_
    refine OV2.eq_str ⟨_, rfl, fun _ => ?_, fun h => (by cases h)⟩
    refine EV.sub ?_
    refine EV.var rfl ?_
    refine EV.sub ?_
    refine EV.var rfl ?_
    refine EV.cint ?_
    refine OV2.itemT (by decide) rfl (show (3 : Nat) < 2 ^ 62 by decide) ?_
    refine OV2.item he (by omega) (v := .ref (es.getD i 0)) (by rw [Int.toNat_natCast, List.getElem?_map, List.getD_eq_getElem?_getD, List.getElem?_eq_getElem hi]; rfl) (by simp; omega) ?_
    exact ⟨rfl, rfl⟩
  | nul =>
    refine OV2.itemT (by decide) rfl (show (3 : Nat) < 2 ^ 62 by decide) ?_
    refine EV.cstr (l := sErr) ?_
    refine OV2.eq_str ⟨_, rfl, fun h => (by cases h), fun _ => ?_⟩
    refine EV.sub ?_
    refine EV.var rfl ?_
    refine EV.cint ?_
    refine OV2.itemT (by decide) rfl (show (3 : Nat) < 2 ^ 62 by decide) ?_
    exact ⟨rfl, rfl⟩
  | num i =>
    refine OV2.itemT (by decide) rfl (show (3 : Nat) < 2 ^ 62 by decide) ?_
    refine EV.cstr (l := sErr) ?_
    refine OV2.eq_str ⟨_, rfl, fun h => (by cases h), fun _ => ?_⟩
    refine EV.sub ?_
    refine EV.var rfl ?_
    refine EV.cint ?_
    refine OV2.itemT (by decide) rfl (show (3 : Nat) < 2 ^ 62 by decide) ?_
    exact ⟨rfl, rfl⟩
  | txt l =>
    refine OV2.itemT (by decide) rfl (show (3 : Nat) < 2 ^ 62 by decide) ?_
    refine EV.cstr (l := sErr) ?_
    refine OV2.eq_str ⟨_, rfl, fun h => (by cases h), fun _ => ?_⟩
    refine EV.sub ?_
    refine EV.var rfl ?_
    refine EV.cint ?_
    refine OV2.itemT (by decide) rfl (show (3 : Nat) < 2 ^ 62 by decide) ?_
    exact ⟨rfl, rfl⟩
end
end Mine
namespace Mine
open PySem PySem.W PyProof.Rows PySem.SeqAt
noncomputable def words (rs : List (List Spec)) : Nat → Spec → List Nat
  | _, .nul => [78, 111, 110, 101]
  | _, .num i => digI i
  | _, .txt l => l
  | 0, .err _ => []
  | k + 1, .err i => wordsOf (words rs k ((rs.getD i []).getD 0 .nul)) (words rs k ((rs.getD i []).getD 1 .nul)) (words rs k ((rs.getD i []).getD 2 .nul))
structure RowsA (rs : List (List Spec)) : Prop where
  three : ∀ (i : Nat) (r : List Spec), rs[i]? = some r → r.length = 3
  ok : ∀ (i : Nat) (r : List Spec), rs[i]? = some r → ∀ s ∈ r, s.ok i
structure Rows (hp : List O) (jr : Nat) (ri : List Nat) (rs : List (List Spec)) : Prop extends RowsA rs where
  lst : hp[jr]? = some (.list (refs ri))
  len : ri.length = rs.length
  few : rs.length < 1000
  row : ∀ (i : Nat) (r : List Spec), rs[i]? = some r → hp[ri.getD i 0]? = some (.list (r.map Spec.v))
theorem Rows.app {hp g : List O} {jr : Nat} {ri : List Nat} {rs : List (List Spec)} (R : Rows hp jr ri rs) : Rows (hp ++ g) jr ri rs := ⟨R.toRowsA, app_get R.lst, R.len, R.few, fun i r h => app_get (R.row i r h)⟩
theorem RowsA.field {rs : List (List Spec)} (R : RowsA rs) (i j : Nat) : ((rs.getD i []).getD j .nul).ok i := by
  cases h : rs[i]? with
  | none => rw [List.getD_eq_getElem?_getD (l := rs), h]; exact trivial
  | some r =>
    rw [List.getD_eq_getElem?_getD (l := rs), h]
    show (r.getD j .nul).ok i
    rw [List.getD_eq_getElem?_getD]
    cases hj : r[j]? with
    | none => exact trivial
    | some s => exact R.ok i r h s (List.mem_of_getElem? hj)
theorem digI_len {i : Int} (h : i.natAbs < 10 ^ 10) : (digI i).length ≤ 11 := by
  have hl := digT_len 9 _ h
  by_cases hi : i < 0
  · rw [digI_neg' hi]
    obtain ⟨n, hn⟩ : ∃ n : Nat, -i = n := ⟨(-i).toNat, by omega⟩
    have en : i.natAbs = n := by omega
    rw [hn, digI_nat, ← en]; simp; omega
  · obtain ⟨n, rfl⟩ : ∃ n : Nat, i = n := ⟨i.toNat, by omega⟩
    rw [digI_nat]
    have : (digT n).length ≤ 10 := hl
    omega
theorem words_len {rs : List (List Spec)} (R : RowsA rs) : ∀ (k : Nat) (sp : Spec), sp.ok k → (words rs k sp).length + 5 ≤ 16 * 3 ^ k
  | k, .nul, _ => by have := Nat.one_le_pow k 3 (by decide); cases k <;> simp [words] <;> omega
  | k, .num i, h => by have := Nat.one_le_pow k 3 (by decide); have := digI_len h; cases k <;> simp only [words] <;> omega
  | k, .txt l, h => by have := Nat.one_le_pow k 3 (by decide); have : l.length ≤ 7 := h; cases k <;> simp only [words] <;> omega
  | 0, .err i, h => absurd h (Nat.not_lt_zero _)
  | k + 1, .err i, h => by
    have hi : i < k + 1 := h
    have a := words_len R k _ ((R.field i 0).le (show i ≤ k by omega))
    have b := words_len R k _ ((R.field i 1).le (show i ≤ k by omega))
    have c := words_len R k _ ((R.field i 2).le (show i ≤ k by omega))
    simp only [words, wordsOf, List.length_append, List.length_cons, List.length_nil]
    rw [Nat.pow_succ]
    omega
structure WdsK (K : Frag) (aW : Addr) (cdW : Value) : Prop where
  g : nsIn K mainGlobals "_law_words" = some (some (.ref aW))
  k : keepIn K (.ref aW) = true
  f : FnKc K aW "_law_words" (stmt 7) cdW
section
variable {c : Cx} {aW : Addr} {cdW : Value}
noncomputable def Spec.plain : Spec → Bool
  | .err _ => false
  | _ => true
theorem lawWordsP (W : WdsK c.K aW cdW) {hp : List O} {jr : Nat} {sp : Spec} (rs : List (List Spec)) (k : Nat) (h : sp.plain = true) : FV c 2 (.top aW) [.ref jr, sp.v] hp (fun v hp' => v = .str (words rs k sp) ∧ ∃ g, hp' = hp ++ g) := by
  have fin : ∀ (vs : List V) (w : List Nat), vs.length = 3 → vs[0]? = some (.str sPlain) → vs[2]? = some (.str w) → FV c 2 (.top aW) [.ref jr, .tup vs] hp (fun v hp' => v = .str w ∧ ∃ g, hp' = hp ++ g) := fun vs w e0 e1 e2 => by
    refine FV.fnC W.f (ns := ["rows", "spec"]) (cs := ["rows"]) (fun _ _ _ _ xs h => by obtain ⟨_, _, rfl⟩ := len2 h; rfl) rfl (by decide) (by decide +kernel) (by decide) (by decide +kernel) (by decide +kernel) fun Lo cells ρ₀ hρ => ?_
    refine XV.st2 (loc' := [("spec", .tup vs)]) (hp' := hp ++ [.cell (some (.ref jr))]) rfl rfl ?_
    refine XV.cons ?_
    refine XV.ifB ?_
    refine TV.cmp ?_
    refine EV.sub ?_
    refine EV.var rfl ?_
    refine EV.cint ?_
    refine OV2.itemT (by decide) e1 (by rw [e0]; decide) ?_
    refine EV.cstr (l := sPlain) ?_
    refine OV2.eq_str ⟨_, rfl, fun _ => ?_, fun h => (by cases h)⟩
    refine XV.cons ?_
    refine XV.ret ?_
    refine EV.sub ?_
    refine EV.var rfl ?_
    refine EV.cint ?_
    refine OV2.itemT (by decide) e2 (by rw [e0]; decide) ?_
    exact ⟨rfl, _, rfl⟩
  cases sp with
  | err _ => cases h
  | nul => cases k <;> exact fin _ _ rfl rfl rfl
  | num i => cases k <;> exact fin _ _ rfl rfl rfl
  | txt l => cases k <;> exact fin _ _ rfl rfl rfl
theorem lawWords (W : WdsK c.K aW cdW) : ∀ (k : Nat) (hp : List O) (jr : Nat) (ri : List Nat) (rs : List (List Spec)) (sp : Spec), k ≤ 4 → Rows hp jr ri rs → sp.ok k → sp.ok rs.length →
    FV c (k + 2) (.top aW) [.ref jr, sp.v] hp (fun v hp' => v = .str (words rs k sp) ∧ ∃ g, hp' = hp ++ g) := by
  intro k
  induction k with
  | zero =>
    intro hp jr ri rs sp hk R hs hi
    cases sp with
    | err i => exact absurd hs (Nat.not_lt_zero _)
    | _ => exact lawWordsP W rs 0 rfl
  | succ k ih =>
    intro hp jr ri rs sp hk R hs hi
    cases sp with
    | nul => exact (lawWordsP W rs (k + 1) rfl).le (by omega)
    | num i => exact (lawWordsP W rs (k + 1) rfl).le (by omega)
    | txt l => exact (lawWordsP W rs (k + 1) rfl).le (by omega)
    | err i =>
      have hik : i < k + 1 := hs
      have hir : i < rs.length := hi
      obtain ⟨r, hr⟩ : ∃ r, rs[i]? = some r := ⟨_, List.getElem?_eq_getElem hir⟩
      have hrg : rs.getD i [] = r := by rw [List.getD_eq_getElem?_getD, hr]; rfl
      obtain ⟨s0, s1, s2, rfl⟩ : ∃ s0 s1 s2, r = [s0, s1, s2] := by
        have := R.three i r hr
        rcases r with _ | ⟨a, _ | ⟨b, _ | ⟨d, _ | ⟨e, r⟩⟩⟩⟩ <;> simp at this
        exact ⟨_, _, _, rfl⟩
      have ok0 := R.ok i _ hr
      refine FV.fnC W.f (ns := ["rows", "spec"]) (cs := ["rows"]) (fun _ _ _ _ xs h => by obtain ⟨_, _, rfl⟩ := len2 h; rfl) rfl (by decide) (by decide +kernel) (by decide) (by decide +kernel) (by decide +kernel) fun Lo cells ρ₀ hρ => ?_
      refine XV.st2 (loc' := [("spec", (Spec.err i).v)]) (hp' := hp ++ [.cell (some (.ref jr))]) rfl rfl ?_
      refine XV.cons ?_
      refine XV.ifB ?_
      refine TV.cmp ?_
      refine EV.sub ?_
      refine EV.var rfl ?_
      refine EV.cint ?_
      refine OV2.itemT (by decide) rfl (show (3 : Nat) < 2 ^ 62 by decide) ?_
      refine EV.cstr (l := sPlain) ?_
      refine OV2.eq_str ⟨_, rfl, fun h => (by cases h), fun _ => ?_⟩
      refine XV.nil ?_
      refine XV.cons ?_
      refine XV.assignT ?_
      refine EV.comp (cl' := [("rows", hp.length)]) (by rfl) ?_
      refine EV.sub ?_
      refine EV.cell (i := hp.length) rfl ga ?_
      refine EV.sub ?_
      refine EV.var rfl ?_
      refine EV.cint ?_
      refine OV2.itemT (by decide) rfl (show (3 : Nat) < 2 ^ 62 by decide) ?_
      have R1 := R.app (g := [.cell (some (.ref jr))])
      have hil : i < ri.length := by rw [R.len]; exact hir
      have hfew := R.few
      refine OV2.item R1.lst (by omega) (v := .ref (ri.getD i 0)) (by rw [Int.toNat_natCast, List.getElem?_map, List.getD_eq_getElem?_getD, List.getElem?_eq_getElem hil]; rfl) (by rw [List.length_map, R.len]; omega) ?_
      obtain ⟨H, hH⟩ : ∃ H, H = hp ++ [.cell (some (.ref jr))] := ⟨_, rfl⟩
      rw [← hH] at R1 ⊢
      have hc : H[hp.length]? = some (.cell (some (.ref jr))) := by rw [hH]; exact ga
      refine ⟨_, _, _, fun m acc hp' => acc = (([s0, s1, s2].take m).map fun s => V.str (words rs k s)) ∧ ∃ g, hp' = H ++ .list acc :: g, Src.list (R1.row i _ hr), ⟨rfl, [], rfl⟩, ⟨?_, ?_⟩, ?_⟩
      · rintro m acc hp' ⟨rfl, g, rfl⟩
        exact ⟨ga, fun _ => app_get (R1.row i _ hr)⟩
      · rintro C clos ρ₁ m acc hp' hm ⟨rfl, g, rfl⟩
        have hm : m < 3 := hm
        obtain ⟨s, hs1, hs2, hs3⟩ : ∃ s, (List.map Spec.v [s0, s1, s2]).getD m .none = s.v ∧ s ∈ [s0, s1, s2] ∧ [s0, s1, s2].take (m + 1) = [s0, s1, s2].take m ++ [s] := by
          match m, hm with
          | 0, _ => exact ⟨s0, rfl, by simp, rfl⟩
          | 1, _ => exact ⟨s1, rfl, by simp, rfl⟩
          | 2, _ => exact ⟨s2, rfl, by simp, rfl⟩
        show CT c _ _ _ _ ⟨[(_, (List.map Spec.v [s0, s1, s2]).getD m .none)], _⟩ _
        rw [hs1]
        show EV _ _ _ _ _ _
        refine EV.call (k + 2) W.g W.k (hkd := Nat.le_refl _) ?_
        refine EVs.cons ?_
        refine EV.cell (i := hp.length) rfl (app_get hc) ?_
        refine EVs.cons ?_
        refine EV.var rfl ?_
        refine EVs.nil ?_
        have oks := ok0 s hs2
        refine (ih _ jr ri rs s (by omega) R1.app (oks.le (by omega)) (oks.le (by omega))).mono fun v hp' ⟨e1, g', e2⟩ => ?_
        subst e1; subst e2
        refine ⟨by rw [List.append_assoc]; exact ga, by simp; omega, by rw [hs3, List.map_append]; rfl, g ++ g', ?_⟩
        rw [List.append_assoc]; exact sa
      rintro acc hp' ⟨rfl, g, rfl⟩
      refine OU1.tupleL ga rfl ?_
      show OU1 _ _ _ _ _ _ _
      refine OU1.name ?_
      show OU1 _ _ _ _ _ _ _
      refine OU1.name ?_
      show OU1 _ _ _ _ _ _ _
      refine OU1.name ?_
      show XV _ _ _ _ _ _
      have hl : ∀ s ∈ [s0, s1, s2], (words rs k s).length ≤ 16 * 3 ^ k := fun s hs => by
        have := words_len R.toRowsA k s ((ok0 s hs).le (by omega)); omega
      have hk3 : 3 ^ k ≤ 81 := Nat.le_trans (Nat.pow_le_pow_right (by decide) (show k ≤ 4 by omega)) (by decide)
      have l0 := hl s0 (by simp)
      have l1 := hl s1 (by simp)
      have l2 := hl s2 (by simp)
      have zs : ∀ n, n ≤ 100000 → n ≤ sizeLine := fun n hn => Nat.le_trans hn (by decide)
      refine XV.cons ?_
      refine XV.ret ?_
      refine EV.binop ?_
      refine EV.binop ?_
      refine EV.binop ?_
      refine EV.binop ?_
      refine EV.binop ?_
      refine EV.var (v := .str (words rs k s0)) rfl ?_
      refine EV.cstr (l := [32, 40]) ?_
      refine OV2.add_str (zs _ (by simp; omega)) ?_
      refine EV.var (v := .str (words rs k s1)) rfl ?_
      refine OV2.add_str (zs _ (by simp; omega)) ?_
      refine EV.cstr (l := [44, 32, 108, 105, 110, 101, 32]) ?_
      refine OV2.add_str (zs _ (by simp; omega)) ?_
      refine EV.var (v := .str (words rs k s2)) rfl ?_
      refine OV2.add_str (zs _ (by simp; omega)) ?_
      refine EV.cstr (l := [41]) ?_
      refine OV2.add_str (zs _ (by simp; omega)) ?_
      refine ⟨?_, _, by rw [hH, List.append_assoc]⟩
      show V.str _ = V.str (wordsOf _ _ _)
      rw [hrg]
      rfl
end
end Mine
namespace Mine
open PySem PySem.W PyProof.Rows PySem.SeqAt
structure Errs (C : Addr) (hp : List O) (es ns : List Nat) (rs : List (List Spec)) (fs : List Spec) : Prop where
  elen : es.length = rs.length
  nlen : ns.length = rs.length
  flen : fs.length = rs.length
  at_ : ∀ (i : Nat) (s0 s1 s2 f : Spec), rs[i]? = some [s0, s1, s2] → fs[i]? = some f →
    hp[es.getD i 0]? = some (.exc C (some (ns.getD i 0)) (.tup [valOf es f]) false) ∧ hp[ns.getD i 0]? = some (ens (valOf es s1) (valOf es s2) (valOf es s0))
  fok : ∀ (i : Nat) (f : Spec), fs[i]? = some f → f.ok i
theorem Errs.app {C : Addr} {hp g : List O} {es ns : List Nat} {rs : List (List Spec)} {fs : List Spec} (E : Errs C hp es ns rs fs) : Errs C (hp ++ g) es ns rs fs :=
  ⟨E.elen, E.nlen, E.flen, fun i s0 s1 s2 f h1 h2 => ⟨app_get (E.at_ i s0 s1 s2 f h1 h2).1, app_get (E.at_ i s0 s1 s2 f h1 h2).2⟩, E.fok⟩
theorem val_handed (es : List Nat) (s : Spec) : (valOf es s).handed = true := by cases s <;> rfl
theorem row3 {rs : List (List Spec)} (R : RowsA rs) {i : Nat} (h : i < rs.length) : ∃ s0 s1 s2, rs[i]? = some [s0, s1, s2] := by
  obtain ⟨r, hr⟩ : ∃ r, rs[i]? = some r := ⟨_, List.getElem?_eq_getElem h⟩
  have := R.three i r hr
  rcases r with _ | ⟨a, _ | ⟨b, _ | ⟨d, _ | ⟨e, r⟩⟩⟩⟩ <;> simp at this
  exact ⟨_, _, _, hr⟩
theorem log_small {n : Nat} (h : n < 10 ^ 10) : n.log2 < 1920 := by
  by_cases h0 : n = 0
  · subst h0; decide
  · have : n.log2 < 40 := (Nat.log2_lt h0).mpr (Nat.lt_of_lt_of_le h (by decide))
    omega
section
variable {c : Cx} {C aI aD' aS aD aP aV aW : Addr} {cdW cdT : Value}
theorem showVal {hp : List O} {es ns : List Nat} {rs : List (List Spec)} {fs : List Spec} {k : Nat} (R : RowsA rs) (E : Errs C hp es ns rs fs)
    (ih : ∀ i, i < k → i < rs.length → FV c (k + 1) (.top aS) [.ref (es.getD i 0)] hp (fun v hp' => v = .str (words rs k (.err i)) ∧ hp' = hp)) (s : Spec) (hs : s.ok k) (hs' : s.ok rs.length) :
    Showable c C aS hp (k + 1) (valOf es s) (words rs k s) := by
  cases s with
  | nul => cases k <;> exact .none rfl rfl
  | num i => cases k <;> exact .int i rfl (log_small hs) rfl
  | txt l => cases k <;> exact .str rfl
  | err i =>
    obtain ⟨s0, s1, s2, hr⟩ := row3 R hs'
    obtain ⟨f, hf⟩ : ∃ f, fs[i]? = some f := ⟨_, List.getElem?_eq_getElem (by rw [E.flen]; exact hs')⟩
    obtain ⟨a1, a2⟩ := E.at_ i s0 s1 s2 f hr hf
    exact .err _ _ _ _ _ rfl a1 a2 (ih i hs hs')
theorem strOf {hp : List O} {es ns : List Nat} {rs : List (List Spec)} {fs : List Spec} (Z : ErrK c.K C aI aD' aS) (R : RowsA rs) (E : Errs C hp es ns rs fs) : ∀ k, k ≤ 4 → ∀ i, i < k → i < rs.length →
    FV c (k + 1) (.top aS) [.ref (es.getD i 0)] hp (fun v hp' => v = .str (words rs k (.err i)) ∧ hp' = hp)
  | 0, _, i, hi, _ => absurd hi (Nat.not_lt_zero _)
  | k + 1, hk, i, hi, hr => by
    obtain ⟨s0, s1, s2, h3⟩ := row3 R hr
    obtain ⟨f, hf⟩ : ∃ f, fs[i]? = some f := ⟨_, List.getElem?_eq_getElem (by rw [E.flen]; exact hr)⟩
    obtain ⟨a1, a2⟩ := E.at_ i s0 s1 s2 f h3 hf
    have ok := R.ok i _ h3
    have sh := fun s (hs : s ∈ [s0, s1, s2]) => showVal (c := c) (aS := aS) (k := k) R E (fun j hj hj' => strOf Z R E k (by omega) j hj hj') s ((ok s hs).le (by omega)) ((ok s hs).le (by omega))
    have ln := fun s (hs : s ∈ [s0, s1, s2]) => words_len R k s ((ok s hs).le (by omega))
    have hk3 : 3 ^ k ≤ 81 := Nat.le_trans (Nat.pow_le_pow_right (by decide) (show k ≤ 4 by omega)) (by decide)
    have l0 := ln s0 (by simp)
    have l1 := ln s1 (by simp)
    have l2 := ln s2 (by simp)
    have := strErr Z a1 a2 (sh s0 (by simp)) (sh s1 (by simp)) (sh s2 (by simp)) (by simp only [wordsOf, List.length_append, List.length_cons, List.length_nil]; omega) (val_handed _ _) (val_handed _ _) (val_handed _ _)
    refine this.mono fun v hp' ⟨e1, e2⟩ => ⟨?_, e2⟩
    have hrg : rs.getD i [] = [s0, s1, s2] := by rw [List.getD_eq_getElem?_getD, h3]; rfl
    rw [e1]
    show V.str (wordsOf _ _ _) = V.str (wordsOf _ _ _)
    rw [hrg]
    rfl
end
end Mine
namespace Mine
open PySem PySem.W PyProof.Rows PySem.SeqAt
structure TldK (K : Frag) (aT : Addr) (cdT : Value) : Prop where
  g : nsIn K mainGlobals "_law_told" = some (some (.ref aT))
  k : keepIn K (.ref aT) = true
  f : FnKc K aT "_law_told" (stmt 8) cdT
  gRange : nsIn K mainGlobals "range" = some none
  gLen : nsIn K mainGlobals "len" = some none
  gStr : nsIn K mainGlobals "str" = some none
  gList : nsIn K mainGlobals "list" = some none
theorem like_val {hp : List O} {n : Nat} (es : List Nat) (s : Spec) : Like hp n (valOf es s) (valOf es s) := by
  cases s with
  | err i => exact .ref
  | nul => exact .none
  | num i => exact .int
  | txt l => exact .str
theorem ref_get {l : List Nat} {i : Nat} (h : i < l.length) : (refs l)[i]? = some (.ref (l.getD i 0)) := by
  rw [List.getElem?_map, List.getD_eq_getElem?_getD, List.getElem?_eq_getElem h]; rfl
section
variable {c : Cx} {C aI aD' aS aP aV aW aT : Addr} {cdW cdT : Value}
theorem lawTold {hp : List O} {es ns ri : List Nat} {rs : List (List Spec)} {fs : List Spec} {je jr jf : Nat} (Z : ErrK c.K C aI aD' aS) (S : SpcK c.K aP aV) (W : WdsK c.K aW cdW) (T : TldK c.K aT cdT) (R : Rows hp jr ri rs) (E : Errs C hp es ns rs fs)
    (he : hp[je]? = some (.list (refs es))) (hf : hp[jf]? = some (.list (fs.map Spec.v))) (h4 : rs.length ≤ 4) :
    FV c 9 (.top aT) [.ref je, .ref jr, .ref jf] hp (fun v hp' => v = .bool true ∧ ∃ g, hp' = hp ++ g) := by
  refine FV.fnC T.f (ns := ["errors", "rows", "firsts"]) (cs := ["errors"]) (fun _ _ _ _ xs h => by obtain ⟨_, _, _, rfl⟩ := len3 h; rfl) rfl (by decide) (by decide +kernel) (by decide) (by decide +kernel) (by decide +kernel) fun Lo cells ρ₀ hρ => ?_
  have hel : es.length = rs.length := E.elen
  refine XV.st2 (loc' := [("rows", .ref jr), ("firsts", .ref jf)]) (hp' := hp ++ [.cell (some (.ref je))]) rfl rfl ?_
  refine XV.cons ?_
  refine XV.forS ?_
  refine EV.callT T.gRange Boot.«range» (by decide) ?_
  refine EVs.cons ?_
  refine EV.callB T.gLen Boot.«len» (by decide) ?_
  refine EVs.cons ?_
  refine EV.cell (i := hp.length) rfl ga ?_
  refine EVs.nil ?_
  refine OVs.len_list (app_get he) (by rw [List.length_map]; omega) ?_
  refine EVs.nil ?_
  rw [List.length_map]
  refine OVs.range1 ?_
  obtain ⟨H, hH⟩ : ∃ H, H = hp ++ [.cell (some (.ref je))] ++ [.rng 0 (es.length : Nat) 1] := ⟨_, rfl⟩
  refine ⟨es.length, _, _, Src.upto ga (by omega), fun i σ => at_ σ.loc "rows" = some (.ref jr) ∧ at_ σ.loc "firsts" = some (.ref jf) ∧ ∃ g, σ.hp = H ++ g, ⟨rfl, rfl, [], by rw [hH]; simp⟩, fun _ _ _ => trivial, ?_, ?_⟩
  · intro ρ₁ hρ₁ i σ hi ⟨e1, e2, g, e3⟩
    have hir : i < rs.length := by omega
    obtain ⟨s0, s1, s2, hr⟩ := row3 R.toRowsA hir
    obtain ⟨f, hfi⟩ : ∃ f, fs[i]? = some f := ⟨_, List.getElem?_eq_getElem (by rw [E.flen]; exact hir)⟩
    have ok := R.ok i _ hr
    have okf := E.fok i f hfi
    obtain ⟨Y, hY⟩ : ∃ Y, Y = H ++ g := ⟨_, rfl⟩
    have hYp : ∃ g', Y = H ++ g' := ⟨_, hY⟩
    have yc : Y[hp.length]? = some (.cell (some (.ref je))) := by rw [hY, hH]; exact app_get (app_get ga)
    have ye : Y[je]? = some (.list (refs es)) := by rw [hY, hH]; exact app_get (app_get (app_get he))
    have yf : Y[jf]? = some (.list (fs.map Spec.v)) := by rw [hY, hH]; exact app_get (app_get (app_get hf))
    have RY : Rows Y jr ri rs := by rw [hY, hH]; exact R.app.app.app
    have EY : Errs C Y es ns rs fs := by rw [hY, hH]; exact E.app.app.app
    rw [← hY] at e3
    clear hY
    have hig : (es.getD i 0) = es.getD i 0 := rfl
    have sube : ∀ {loc : List (Str × V)} {Z' : List O} {Q : V → St → Prop} {p1 p2 p3 : Pos}, at_ loc "i" = some (.int (i : Nat)) → (∃ g, Z' = Y ++ g) → Q (.ref (es.getD i 0)) ⟨loc, Z'⟩ →
        EV c 8 { env := envX "_law_told" (fScope (stmt 8)) Lo aT cdT cells, cl := clOf hp.length ["errors"], ρ₀ := ρ₁ } (eval (.Subscript (.Name "errors" p1) (.Name "i" p2) p3) (envX "_law_told" (fScope (stmt 8)) Lo aT cdT cells)) ⟨loc, Z'⟩ Q := fun h1 ⟨g', h2⟩ q => by
      subst h2
      refine EV.sub ?_
      refine EV.cell (i := hp.length) rfl (app_get yc) ?_
      refine EV.var h1 ?_
      refine OV2.item (app_get ye) (by omega) (v := .ref (es.getD i 0)) (by rw [Int.toNat_natCast]; exact ref_get hi) (by rw [List.length_map]; omega) ?_
      exact q
    obtain ⟨a1, a2⟩ := EY.at_ i s0 s1 s2 f hr hfi
    refine OU1.name ?_
    rw [e3]
    refine XV.cons ?_
    refine XV.assign ?_
    refine EV.binop ?_
    refine EV.list ?_
    refine EVs.cons ?_
    refine EV.callT T.gStr Boot.«str» (by decide) ?_
    refine EVs.cons ?_
    refine sube lk_eq ⟨[], by simp⟩ ?_
    refine EVs.nil ?_
    refine OVs.strE 5 a1 a2 Z.st Z.tS ((strOf Z R.toRowsA EY 4 (by decide) i (by omega) hir).mono fun v hp' ⟨q1, q2⟩ => ?_) (by decide)
    replace q2 := q2.symm
    subst q1; subst q2
    have lw := words_len R.toRowsA 4 (.err i) (show i < 4 by omega)
    refine ⟨_, rfl, Nat.le_trans (show _ ≤ 2000 by omega) (by decide), ?_⟩
    refine EVs.cons ?_
    refine EV.attrE ?_
    refine sube lk_eq ⟨[], by simp⟩ ?_
    refine ⟨_, C, _, _, _, _, valOf es s0, rfl, a1, a2, rfl, Z.cls, Z.a3, val_handed _ _, ?_⟩
    refine EVs.cons ?_
    refine EV.attrE ?_
    refine sube lk_eq ⟨[], by simp⟩ ?_
    refine ⟨_, C, _, _, _, _, valOf es s1, rfl, a1, a2, rfl, Z.cls, Z.a1, val_handed _ _, ?_⟩
    refine EVs.cons ?_
    refine EV.attrE ?_
    refine sube lk_eq ⟨[], by simp⟩ ?_
    refine ⟨_, C, _, _, _, _, valOf es s2, rfl, a1, a2, rfl, Z.cls, Z.a2, val_handed _ _, ?_⟩
    refine EVs.nil ⟨(show (4 : Nat) ≤ 1000 by decide), ?_⟩
    refine EV.callT T.gList Boot.«list» (by decide) ?_
    refine EVs.cons ?_
    refine EV.argsE ?_
    refine sube lk_eq ⟨_, rfl⟩ ?_
    refine ⟨_, C, _, _, _, _, rfl, app_get a1, app_get a2, Z.cls, Z.ar, ?_⟩
    refine EVs.nil ?_
    refine OVs.listTup (show (1 : Nat) ≤ 1000 by decide) ?_
    refine OV2.add_list (app_get ga) ga (show (5 : Nat) ≤ 100000 by decide) ?_
    show XV _ _ _ _ _ _
    obtain ⟨t, ht⟩ : ∃ t, t = (Y ++ [O.list [V.str (words rs 4 (Spec.err i)), valOf es s0, valOf es s1, valOf es s2]] ++ [O.list [valOf es f]]).length := ⟨_, rfl⟩
    obtain ⟨Y2, hY2⟩ : ∃ Y2, Y2 = Y ++ [O.list [V.str (words rs 4 (Spec.err i)), valOf es s0, valOf es s1, valOf es s2]] ++ [O.list [valOf es f]] ++ [O.list ([V.str (words rs 4 (Spec.err i)), valOf es s0, valOf es s1, valOf es s2] ++ [valOf es f])] := ⟨_, rfl⟩
    refine XV.st2 (loc' := put "told" (.ref t) (put "i" (.int (i : Nat)) σ.loc)) (hp' := Y2) (by rw [ht]) (by rw [hY2]) ?_
    have y2t : Y2[t]? = some (.list [V.str (words rs 4 (Spec.err i)), valOf es s0, valOf es s1, valOf es s2, valOf es f]) := by rw [hY2, ht]; exact ga
    have y2p : ∃ g', Y2 = Y ++ g' := ⟨_, by rw [hY2, List.append_assoc, List.append_assoc]⟩
    have y2f : ∀ {j : Nat} {o : O}, Y[j]? = some o → Y2[j]? = some o := fun h => by obtain ⟨g', e⟩ := y2p; rw [e]; exact app_get h
    have RY2 : Rows Y2 jr ri rs := by obtain ⟨g', e⟩ := y2p; rw [e]; exact RY.app
    have hrf := R.few
    have hrl := R.len
    have hfl := E.flen
    clear hY2 ht
    refine XV.cons ?_
    refine XV.assignComp (cl' := [("errors", hp.length)]) (by rfl) ?_
    refine EV.binop ?_
    refine EV.sub ?_
    refine EV.var (lk_ne (lk_ne e1 (by decide)) (by decide)) ?_
    refine EV.var (lk_ne lk_eq (by decide)) ?_
    refine OV2.item RY2.lst (by omega) (v := .ref (ri.getD i 0)) (by rw [Int.toNat_natCast]; exact ref_get (by omega)) (by rw [List.length_map]; omega) ?_
    refine EV.list ?_
    refine EVs.cons ?_
    refine EV.sub ?_
    refine EV.var (lk_ne (lk_ne e2 (by decide)) (by decide)) ?_
    refine EV.var (lk_ne lk_eq (by decide)) ?_
    refine OV2.item (y2f yf) (by omega) (v := f.v) (by rw [Int.toNat_natCast, List.getElem?_map, hfi]; rfl) (by rw [List.length_map]; omega) ?_
    refine EVs.nil ⟨(show (1 : Nat) ≤ 1000 by decide), ?_⟩
    refine OV2.add_list (app_get (RY2.row i _ hr)) ga (show (4 : Nat) ≤ 100000 by decide) ?_
    obtain ⟨Y3, hY3⟩ : ∃ Y3, Y3 = Y2 ++ [O.list [f.v]] ++ [O.list ([s0, s1, s2].map Spec.v ++ [f.v])] := ⟨_, rfl⟩
    obtain ⟨u, hu⟩ : ∃ u, u = (Y2 ++ [O.list [f.v]]).length := ⟨_, rfl⟩
    have y3u : Y3[u]? = some (.list ([s0, s1, s2, f].map Spec.v)) := by rw [hY3, hu]; exact ga
    have y3p : ∃ g', Y3 = Y2 ++ g' := ⟨_, by rw [hY3, List.append_assoc]⟩
    have y3f : ∀ {j : Nat} {o : O}, Y2[j]? = some o → Y3[j]? = some o := fun h => by obtain ⟨g', e⟩ := y3p; rw [e]; exact app_get h
    dsimp only
    rw [← hY3, ← hu]
    clear hY3 hu
    refine ⟨_, _, _, fun m acc hp' => acc = (([s0, s1, s2, f].take m).map (valOf es)) ∧ hp' = Y3 ++ [.list acc], Src.list y3u, ⟨rfl, rfl⟩, ⟨?_, ?_⟩, ?_⟩
    · rintro m acc hp' ⟨rfl, rfl⟩
      exact ⟨ga, fun _ => app_get y3u⟩
    · rintro C' clos ρ₂ m acc hp' hm ⟨rfl, rfl⟩
      have hm : m < 4 := hm
      obtain ⟨s, hs1, hs2, hs3⟩ : ∃ s, (List.map Spec.v [s0, s1, s2, f]).getD m .none = s.v ∧ s.ok i ∧ [s0, s1, s2, f].take (m + 1) = [s0, s1, s2, f].take m ++ [s] := by
        match m, hm with
        | 0, _ => exact ⟨s0, rfl, ok _ (by simp), rfl⟩
        | 1, _ => exact ⟨s1, rfl, ok _ (by simp), rfl⟩
        | 2, _ => exact ⟨s2, rfl, ok _ (by simp), rfl⟩
        | 3, _ => exact ⟨f, rfl, okf, rfl⟩
      show CT c _ _ _ _ ⟨[(_, (List.map Spec.v [s0, s1, s2, f]).getD m .none)], _⟩ _
      rw [hs1]
      show EV _ _ _ _ _ _
      refine EV.call 2 S.gV S.kV ?_
      refine EVs.cons ?_
      refine EV.var rfl ?_
      refine EVs.cons ?_
      refine EV.cell (i := hp.length) rfl (app_get (y3f (y2f yc))) ?_
      refine EVs.nil ?_
      refine (lawValue S (app_get (y3f (y2f ye))) (hs2.le (by omega)) (by omega)).mono fun v hp' ⟨q1, q2⟩ => ?_
      subst q1; subst q2
      exact ⟨ga, by simp; omega, by rw [hs3, List.map_append]; rfl, sa⟩
    rintro acc hp' ⟨rfl, rfl⟩
    refine OU1.name ?_
    show XV _ _ _ _ _ _
    have y3t := y3f y2t
    refine XV.cons ?_
    refine XV.ifB ?_
    refine TV.cmp ?_
    refine EV.var (lk_ne lk_eq (by decide)) ?_
    refine EV.binop ?_
    refine EV.list ?_
    refine EVs.cons ?_
    refine EV.call 6 W.g W.k ?_
    refine EVs.cons ?_
    refine EV.var (lk_ne (lk_ne (lk_ne e1 (by decide)) (by decide)) (by decide)) ?_
    refine EVs.cons ?_
    refine EV.tuple ?_
    refine EVs.cons ?_
    refine EV.cstr (l := sErr) ?_
    refine EVs.cons ?_
    refine EV.var (lk_ne (lk_ne lk_eq (by decide)) (by decide)) ?_
    refine EVs.cons ?_
    refine EV.cstr (l := []) ?_
    refine EVs.nil ⟨(show (3 : Nat) ≤ 1000 by decide), ?_⟩
    refine EVs.nil ?_
    have RY3 : Rows (Y3 ++ [.list (([s0, s1, s2, f].take 4).map (valOf es))]) jr ri rs := by obtain ⟨g', e⟩ := y3p; rw [e]; exact RY2.app.app
    refine (lawWords W 4 _ jr ri rs (.err i) (by decide) RY3 (show i < 4 by omega) hir).mono fun v hp' ⟨q1, g', q2⟩ => ?_
    subst q1; subst q2
    refine EVs.nil ⟨(show (1 : Nat) ≤ 1000 by decide), ?_⟩
    refine EV.var lk_eq ?_
    refine OV2.add_list ga (app_get (app_get ga)) (show (5 : Nat) ≤ 100000 by decide) ?_
    refine OV2.neL_like (n := 1) (app_get (app_get (app_get (app_get y3t)))) ga (by decide) ?_ ⟨_, rfl, fun h => (by cases h), fun _ => ?_⟩
    · exact .cons .str (.cons (like_val _ _) (.cons (like_val _ _) (.cons (like_val _ _) (.cons (like_val _ _) .nil))))
    refine XV.nil ?_
    refine XV.nil ?_
    obtain ⟨g1, k1⟩ := y3p
    obtain ⟨g2, k2⟩ := y2p
    obtain ⟨g3, k3⟩ := hYp
    exact ⟨lk_ne (lk_ne (lk_ne e1 (by decide)) (by decide)) (by decide), lk_ne (lk_ne (lk_ne e2 (by decide)) (by decide)) (by decide), _, by dsimp only; rw [k1, k2, k3]; simp only [List.append_assoc]; rfl⟩
  · intro σ ⟨e1, e2, g, e3⟩
    refine XV.cons ?_
    refine XV.ret ?_
    refine EV.cbool ?_
    exact ⟨rfl, _, by rw [e3, hH, List.append_assoc, List.append_assoc]⟩
end
end Mine
namespace Mine
open PySem PySem.W PyProof.Rows PySem.SeqAt
noncomputable def O.isList : O → Bool
  | .list _ => true
  | _ => false
noncomputable def O.isErr : O → Bool
  | .exc .. => true
  | .ns _ => true
  | _ => false
theorem ne_kind {hp : List O} {i j : Nat} {a b : O} (p : O → Bool) (h1 : hp[i]? = some a) (h2 : hp[j]? = some b) (ha : p a = true) (hb : p b = false) : i ≠ j := fun e => by
  subst e; rw [h1] at h2; cases h2; rw [ha] at hb; cases hb
theorem getD_mem {l : List Nat} {i : Nat} (h : i < l.length) : l.getD i 0 ∈ l := by rw [List.getD_eq_getElem?_getD, List.getElem?_eq_getElem h]; exact List.getElem_mem h
theorem Rows.idx {hp : List O} {jr : Nat} {ri : List Nat} {rs : List (List Spec)} (R : Rows hp jr ri rs) {i : Nat} {r : List Spec} (h : rs[i]? = some r) : i < ri.length := by
  have := lt_of_get h; rw [R.len]; exact this
theorem Rows.setOther {hp : List O} {jr x : Nat} {ri : List Nat} {rs : List (List Spec)} {o o' : O} (R : Rows hp jr ri rs) (h : hp[x]? = some o) (ho : o.isList = false) : Rows (hp.set x o') jr ri rs :=
  ⟨R.toRowsA, set_ne (ne_kind O.isList R.lst h rfl ho) R.lst, R.len, R.few, fun i r hr => set_ne (ne_kind O.isList (R.row i r hr) h rfl ho) (R.row i r hr)⟩
theorem Rows.setList {hp : List O} {jr x : Nat} {ri : List Nat} {rs : List (List Spec)} {o' : O} (R : Rows hp jr ri rs) (h1 : x ≠ jr) (h2 : x ∉ ri) : Rows (hp.set x o') jr ri rs :=
  ⟨R.toRowsA, set_ne (Ne.symm h1) R.lst, R.len, R.few, fun i r hr => set_ne (fun e => h2 (e ▸ getD_mem (R.idx hr))) (R.row i r hr)⟩
theorem Errs.setOther {C : Addr} {hp : List O} {x : Nat} {es ns : List Nat} {rs : List (List Spec)} {fs : List Spec} {o o' : O} (E : Errs C hp es ns rs fs) (h : hp[x]? = some o) (ho : o.isErr = false) : Errs C (hp.set x o') es ns rs fs :=
  ⟨E.elen, E.nlen, E.flen, fun i s0 s1 s2 f h1 h2 => ⟨set_ne (ne_kind O.isErr (E.at_ i s0 s1 s2 f h1 h2).1 h rfl ho) (E.at_ i s0 s1 s2 f h1 h2).1, set_ne (ne_kind O.isErr (E.at_ i s0 s1 s2 f h1 h2).2 h rfl ho) (E.at_ i s0 s1 s2 f h1 h2).2⟩, E.fok⟩
theorem getD_snoc_lt {α : Type} {l : List α} {x d : α} {i : Nat} (h : i < l.length) : (l ++ [x]).getD i d = l.getD i d := by
  rw [List.getD_eq_getElem?_getD, List.getD_eq_getElem?_getD, List.getElem?_append_left h]
theorem getD_snoc_eq {α : Type} {l : List α} {x d : α} : (l ++ [x]).getD l.length d = x := by
  rw [List.getD_eq_getElem?_getD]; simp
theorem snoc_get {α : Type} {l : List α} {x y : α} {i : Nat} (h : (l ++ [x])[i]? = some y) : l[i]? = some y ∨ (i = l.length ∧ y = x) := by
  by_cases hi : i < l.length
  · rw [List.getElem?_append_left hi] at h; exact .inl h
  · have := lt_of_get h
    simp at this
    have e : i = l.length := by omega
    subst e
    simp at h
    exact .inr ⟨rfl, h.symm⟩
theorem Rows.addRow {hp : List O} {jr r : Nat} {ri : List Nat} {rs : List (List Spec)} {row : List Spec} (R : Rows hp jr ri rs) (h : hp[r]? = some (.list (row.map Spec.v))) (hn : r ≠ jr) (hni : jr ∉ ri) (h3 : row.length = 3) (ok : ∀ s ∈ row, s.ok rs.length)
    (hf : rs.length + 1 < 1000) : Rows (hp.set jr (.list (refs (ri ++ [r])))) jr (ri ++ [r]) (rs ++ [row]) where
  three := fun i x hx => by rcases snoc_get hx with hx | ⟨_, rfl⟩; exact R.three i x hx; exact h3
  ok := fun i x hx s hs => by rcases snoc_get hx with hx | ⟨rfl, rfl⟩; exact R.ok i x hx s hs; exact ok s hs
  lst := set_at R.lst
  len := by simp [R.len]
  few := by simpa using hf
  row := fun i x hx => by
    rcases snoc_get hx with hx | ⟨rfl, rfl⟩
    · have hi := R.idx hx
      rw [getD_snoc_lt hi]
      exact set_ne (fun e => hni (e ▸ getD_mem hi)) (R.row i x hx)
    · rw [← R.len, getD_snoc_eq]
      exact set_ne hn h
theorem nodup_getD {l : List Nat} (n : l.Nodup) {i j : Nat} (hi : i < l.length) (hj : j < l.length) (e : l.getD i 0 = l.getD j 0) : i = j := by
  rw [List.getD_eq_getElem?_getD, List.getD_eq_getElem?_getD, List.getElem?_eq_getElem hi, List.getElem?_eq_getElem hj] at e
  exact (List.getElem_inj n).mp e
theorem set_get' {α : Type} {l : List α} {w i : Nat} {x y : α} (h : (l.set w x)[i]? = some y) : (i = w ∧ y = x) ∨ (i ≠ w ∧ l[i]? = some y) := by
  by_cases e : i = w
  · subst e
    have hlt : i < l.length := by have := lt_of_get h; simpa using this
    rw [List.getElem?_set_self hlt] at h
    exact .inl ⟨rfl, (Option.some.inj h).symm⟩
  · rw [List.getElem?_set_ne (Ne.symm e)] at h
    exact .inr ⟨e, h⟩
theorem Rows.upd {hp : List O} {jr w k : Nat} {ri : List Nat} {rs : List (List Spec)} {row : List Spec} {sp : Spec} (R : Rows hp jr ri rs) (hw : rs[w]? = some row) (nd : ri.Nodup) (hni : jr ∉ ri) (ok : sp.ok w) :
    Rows (hp.set (ri.getD w 0) (.list ((row.map Spec.v).set k sp.v))) jr ri (rs.set w (row.set k sp)) where
  three := fun i x hx => by
    rcases set_get' hx with ⟨rfl, rfl⟩ | ⟨_, hx⟩
    · rw [List.length_set]; exact R.three i row hw
    · exact R.three i x hx
  ok := fun i x hx s hs => by
    rcases set_get' hx with ⟨rfl, rfl⟩ | ⟨_, hx⟩
    · rcases List.mem_or_eq_of_mem_set hs with hs | rfl
      · exact R.ok i row hw s hs
      · exact ok
    · exact R.ok i x hx s hs
  lst := set_ne (fun e => hni (e ▸ getD_mem (R.idx hw))) R.lst
  len := by rw [List.length_set]; exact R.len
  few := by rw [List.length_set]; exact R.few
  row := fun i x hx => by
    rcases set_get' hx with ⟨rfl, rfl⟩ | ⟨hne, hx⟩
    · rw [set_at (R.row i row hw), List.map_set]
    · exact set_ne (fun e => hne (nodup_getD nd (R.idx hx) (R.idx hw) e)) (R.row i x hx)
theorem val_app {es : List Nat} {e : Nat} {s : Spec} (h : s.ok es.length) : valOf (es ++ [e]) s = valOf es s := by
  cases s with
  | err i => exact congrArg V.ref (getD_snoc_lt h)
  | _ => rfl
theorem Errs.add {C : Addr} {hp : List O} {es ns : List Nat} {rs : List (List Spec)} {fs : List Spec} {s0 s1 s2 : Spec} (R : RowsA (rs ++ [[s0, s1, s2]])) (E : Errs C hp es ns rs fs) {e n : Nat}
    (h1 : hp[e]? = some (.exc C (some n) (.tup [valOf es s0]) false)) (h2 : hp[n]? = some (ens (valOf es s1) (valOf es s2) (valOf es s0))) :
    Errs C hp (es ++ [e]) (ns ++ [n]) (rs ++ [[s0, s1, s2]]) (fs ++ [s0]) := by
  have okn := R.ok rs.length [s0, s1, s2] (by simp)
  refine ⟨by simp [E.elen], by simp [E.nlen], by simp [E.flen], fun i t0 t1 t2 f hr hf => ?_, fun i f hf => ?_⟩
  · rcases snoc_get hr with hr' | ⟨rfl, e0⟩
    · have hi : i < rs.length := lt_of_get hr'
      rcases snoc_get hf with hf' | ⟨e1, _⟩
      · obtain ⟨a1, a2⟩ := E.at_ i t0 t1 t2 f hr' hf'
        have ok := R.ok i [t0, t1, t2] (by rw [List.getElem?_append_left hi]; exact hr')
        have le : ∀ s : Spec, s.ok i → valOf (es ++ [e]) s = valOf es s := fun s hs => val_app (hs.le (by rw [E.elen]; omega))
        rw [getD_snoc_lt (by rw [E.elen]; exact hi), getD_snoc_lt (by rw [E.nlen]; exact hi), le _ (ok t0 (by simp)), le _ (ok t1 (by simp)), le _ (ok t2 (by simp)), le _ (E.fok i f hf')]
        exact ⟨a1, a2⟩
      · rw [E.flen] at e1; omega
    · rcases snoc_get hf with hf' | ⟨e1, e2⟩
      · have := lt_of_get hf'; rw [E.flen] at this; omega
      · subst e2
        injection e0 with q0 q
        injection q with q1 q
        injection q with q2 q
        subst q0; subst q1; subst q2
        have le : ∀ s : Spec, s.ok rs.length → valOf (es ++ [e]) s = valOf es s := fun s hs => val_app (hs.le (by rw [E.elen]; omega))
        have ge : (es ++ [e]).getD rs.length 0 = e := by rw [← E.elen]; exact getD_snoc_eq
        have gn : (ns ++ [n]).getD rs.length 0 = n := by rw [← E.nlen]; exact getD_snoc_eq
        rw [ge, gn, le _ (okn t0 (by simp)), le _ (okn t1 (by simp)), le _ (okn t2 (by simp))]
        exact ⟨h1, h2⟩
  · rcases snoc_get hf with hf' | ⟨e1, e2⟩
    · exact E.fok i f hf'
    · subst e2
      rw [e1, E.flen]
      exact okn f (by simp)
theorem Errs.upd {C : Addr} {hp : List O} {es ns : List Nat} {rs : List (List Spec)} {fs : List Spec} {w : Nat} {s0 s1 s2 t0 t1 t2 : Spec} (E : Errs C hp es ns rs fs) (hw : rs[w]? = some [s0, s1, s2]) (nd : ns.Nodup) :
    Errs C (hp.set (ns.getD w 0) (ens (valOf es t1) (valOf es t2) (valOf es t0))) es ns (rs.set w [t0, t1, t2]) fs := by
  have hwl : w < rs.length := lt_of_get hw
  obtain ⟨fw, hfw⟩ : ∃ f, fs[w]? = some f := ⟨_, List.getElem?_eq_getElem (by rw [E.flen]; exact hwl)⟩
  obtain ⟨b1, b2⟩ := E.at_ w s0 s1 s2 fw hw hfw
  refine ⟨by simp [E.elen], by simp [E.nlen], by simp [E.flen], fun i u0 u1 u2 f hr hf => ?_, E.fok⟩
  rcases set_get' hr with ⟨rfl, e0⟩ | ⟨hne, hr'⟩
  · injection e0 with q0 q
    injection q with q1 q
    injection q with q2 q
    subst q0; subst q1; subst q2
    rw [hfw] at hf; cases hf
    exact ⟨set_ne (fun e => by rw [e, b2] at b1; cases b1) b1, set_at b2⟩
  · obtain ⟨a1, a2⟩ := E.at_ i u0 u1 u2 f hr' hf
    refine ⟨set_ne (fun e => by rw [e, b2] at a1; cases a1) a1, set_ne (fun e => hne ?_) a2⟩
    exact nodup_getD nd (by rw [E.nlen]; exact lt_of_get hr') (by rw [E.nlen]; exact hwl) e
end Mine
namespace Mine
open PySem PySem.W PyProof.Rows PySem.SeqAt
structure LawS (C P : Addr) (hp : List O) (F : List Nat) (jF jr je : Nat) (ri es ns : List Nat) (rs rs' : List (List Spec)) (fs : List Spec) : Prop where
  fig : hp[jF]? = some (.list (ivs F))
  c1 : hp[0]? = some (.cell (some (.ref jF)))
  c2 : hp[1]? = some (.cell (some (.int F.length)))
  c3 : hp[2]? = some (.cell (some (.ref je)))
  c4 : ∃ v, hp[3]? = some (.cell v)
  c5 : ∃ v, hp[4]? = some (.cell v)
  rows : Rows hp jr ri rs
  errs : Errs C hp es ns rs' fs
  lst : hp[je]? = some (.list (refs es))
  d1 : jF ≠ jr
  d2 : jF ≠ je
  d3 : jr ≠ je
  d4 : jF ∉ ri
  d5 : jr ∉ ri
  d6 : je ∉ ri
  nd : ri.Nodup
  nsd : ns.Nodup
section
variable {C P : Addr} {hp : List O} {F : List Nat} {jF jr je : Nat} {ri es ns : List Nat} {rs rs' : List (List Spec)} {fs : List Spec}
theorem LawS.app (L : LawS C P hp F jF jr je ri es ns rs rs' fs) {g : List O} : LawS C P (hp ++ g) F jF jr je ri es ns rs rs' fs :=
  ⟨app_get L.fig, app_get L.c1, app_get L.c2, app_get L.c3, L.c4.imp fun _ h => app_get h, L.c5.imp fun _ h => app_get h, L.rows.app, L.errs.app, app_get L.lst, L.d1, L.d2, L.d3, L.d4, L.d5, L.d6, L.nd, L.nsd⟩
theorem LawS.set4 (L : LawS C P hp F jF jr je ri es ns rs rs' fs) (v : Option V) : LawS C P (hp.set 3 (.cell v)) F jF jr je ri es ns rs rs' fs :=
  let ⟨_, h⟩ := L.c4
  ⟨set_ne (ne_kind O.isList L.fig h rfl rfl) L.fig, set_ne (by decide) L.c1, set_ne (by decide) L.c2, set_ne (by decide) L.c3, ⟨_, set_at h⟩, L.c5.imp fun _ h => set_ne (by decide) h,
    L.rows.setOther h rfl, L.errs.setOther h rfl, set_ne (ne_kind O.isList L.lst h rfl rfl) L.lst, L.d1, L.d2, L.d3, L.d4, L.d5, L.d6, L.nd, L.nsd⟩
theorem LawS.set5 (L : LawS C P hp F jF jr je ri es ns rs rs' fs) (v : Option V) : LawS C P (hp.set 4 (.cell v)) F jF jr je ri es ns rs rs' fs :=
  let ⟨_, h⟩ := L.c5
  ⟨set_ne (ne_kind O.isList L.fig h rfl rfl) L.fig, set_ne (by decide) L.c1, set_ne (by decide) L.c2, set_ne (by decide) L.c3, L.c4.imp fun _ h => set_ne (by decide) h, ⟨_, set_at h⟩,
    L.rows.setOther h rfl, L.errs.setOther h rfl, set_ne (ne_kind O.isList L.lst h rfl rfl) L.lst, L.d1, L.d2, L.d3, L.d4, L.d5, L.d6, L.nd, L.nsd⟩
noncomputable def O.isCell : O → Bool
  | .cell _ => true
  | _ => false
theorem LawS.head (L : LawS C P hp F jF jr je ri es ns rs rs' fs) {x : Nat} {o o' : O} (h : hp[x]? = some o) (h1 : o.isCell = false) :
    (hp.set x o')[0]? = some (.cell (some (.ref jF))) ∧ (hp.set x o')[1]? = some (.cell (some (.int F.length))) ∧ (hp.set x o')[2]? = some (.cell (some (.ref je))) ∧
      (∃ v, (hp.set x o')[3]? = some (.cell v)) ∧ ∃ v, (hp.set x o')[4]? = some (.cell v) :=
  ⟨set_ne (ne_kind O.isCell L.c1 h rfl h1) L.c1, set_ne (ne_kind O.isCell L.c2 h rfl h1) L.c2, set_ne (ne_kind O.isCell L.c3 h rfl h1) L.c3,
    L.c4.imp fun _ k => set_ne (ne_kind O.isCell k h rfl h1) k, L.c5.imp fun _ k => set_ne (ne_kind O.isCell k h rfl h1) k⟩
theorem LawS.addRow (L : LawS C P hp F jF jr je ri es ns rs rs' fs) {r : Nat} {row : List Spec} (h : hp[r]? = some (.list (row.map Spec.v))) (h0 : r ≠ jF) (h1 : r ≠ jr) (h2 : r ≠ je) (h3 : r ∉ ri) (h4 : row.length = 3) (ok : ∀ s ∈ row, s.ok rs.length) (hf : rs.length + 1 < 1000) :
    LawS C P (hp.set jr (.list (refs (ri ++ [r])))) F jF jr je (ri ++ [r]) es ns (rs ++ [row]) rs' fs :=
  let ⟨a1, a2, a3, a4, a5⟩ := L.head (o' := .list (refs (ri ++ [r]))) L.rows.lst rfl
  ⟨set_ne L.d1 L.fig, a1, a2, a3, a4, a5, L.rows.addRow h h1 L.d5 h4 ok hf, L.errs.setOther L.rows.lst rfl, set_ne (Ne.symm L.d3) L.lst, L.d1, L.d2, L.d3,
    fun m => (List.mem_append.mp m).elim L.d4 fun m => h0 (List.mem_singleton.mp m).symm, fun m => (List.mem_append.mp m).elim L.d5 fun m => h1 (List.mem_singleton.mp m).symm, fun m => (List.mem_append.mp m).elim L.d6 fun m => h2 (List.mem_singleton.mp m).symm,
    List.nodup_append.mpr ⟨L.nd, by simp, fun a ha b hb e => h3 (by rw [List.mem_singleton] at hb; rw [← hb, ← e]; exact ha)⟩, L.nsd⟩
theorem LawS.addErr {s0 s1 s2 : Spec} (L : LawS C P hp F jF jr je ri es ns (rs ++ [[s0, s1, s2]]) rs fs) {e n : Nat} (h1 : hp[e]? = some (.exc C (some n) (.tup [valOf es s0]) false)) (h2 : hp[n]? = some (ens (valOf es s1) (valOf es s2) (valOf es s0))) (h3 : n ∉ ns) :
    LawS C P (hp.set je (.list (refs (es ++ [e])))) F jF jr je ri (es ++ [e]) (ns ++ [n]) (rs ++ [[s0, s1, s2]]) (rs ++ [[s0, s1, s2]]) (fs ++ [s0]) :=
  let ⟨a1, a2, a3, a4, a5⟩ := L.head (o' := .list (refs (es ++ [e]))) L.lst rfl
  ⟨set_ne L.d2 L.fig, a1, a2, a3, a4, a5, L.rows.setList (Ne.symm L.d3) L.d6, (L.errs.add L.rows.toRowsA h1 h2).setOther L.lst rfl, set_at L.lst, L.d1, L.d2, L.d3, L.d4, L.d5, L.d6, L.nd,
    List.nodup_append.mpr ⟨L.nsd, by simp, fun a ha b hb e => h3 (by rw [List.mem_singleton] at hb; rw [← hb, ← e]; exact ha)⟩⟩
theorem LawS.updRow (L : LawS C P hp F jF jr je ri es ns rs rs' fs) {w k : Nat} {row : List Spec} {sp : Spec} (hw : rs[w]? = some row) (ok : sp.ok w) :
    LawS C P (hp.set (ri.getD w 0) (.list ((row.map Spec.v).set k sp.v))) F jF jr je ri es ns (rs.set w (row.set k sp)) rs' fs :=
  have hr := L.rows.row w row hw
  have hm := getD_mem (L.rows.idx hw)
  let ⟨a1, a2, a3, a4, a5⟩ := L.head (o' := .list ((row.map Spec.v).set k sp.v)) hr rfl
  ⟨set_ne (fun e => L.d4 (e ▸ hm)) L.fig, a1, a2, a3, a4, a5, L.rows.upd hw L.nd L.d5 ok, L.errs.setOther hr rfl, set_ne (fun e => L.d6 (e ▸ hm)) L.lst, L.d1, L.d2, L.d3, L.d4, L.d5, L.d6, L.nd, L.nsd⟩
theorem LawS.updErr {s0 s1 s2 t0 t1 t2 : Spec} {w : Nat} (L : LawS C P hp F jF jr je ri es ns rs rs' fs) (hw : rs'[w]? = some [s0, s1, s2]) :
    LawS C P (hp.set (ns.getD w 0) (ens (valOf es t1) (valOf es t2) (valOf es t0))) F jF jr je ri es ns rs (rs'.set w [t0, t1, t2]) fs := by
  obtain ⟨f, hf⟩ : ∃ f, fs[w]? = some f := ⟨_, List.getElem?_eq_getElem (by rw [L.errs.flen]; exact lt_of_get hw)⟩
  have hr := (L.errs.at_ w s0 s1 s2 f hw hf).2
  obtain ⟨a1, a2, a3, a4, a5⟩ := L.head (o' := ens (valOf es t1) (valOf es t2) (valOf es t0)) hr rfl
  exact ⟨set_ne (ne_kind O.isList L.fig hr rfl rfl) L.fig, a1, a2, a3, a4, a5, L.rows.setOther hr rfl, L.errs.upd hw L.nsd, set_ne (ne_kind O.isList L.lst hr rfl rfl) L.lst, L.d1, L.d2, L.d3, L.d4, L.d5, L.d6, L.nd, L.nsd⟩
end
end Mine
namespace Mine
open PySem PySem.W PyProof.Rows PySem.SeqAt
structure LawK (K : Frag) : Prop where
  gLen : nsIn K mainGlobals "len" = some none
  gSum : nsIn K mainGlobals "sum" = some none
  gRange : nsIn K mainGlobals "range" = some none
noncomputable abbrev cl5 : List (Str × Nat) := [("c", 4), ("i", 3), ("errors", 2), ("size", 1), ("figures", 0)]
noncomputable abbrev hp5 : List O := [.cell none, .cell none, .cell none, .cell none, .cell none]
noncomputable abbrev Xend : Fl → St → Prop := fun f σ => f = .ret (.bool true)
section
variable {c : Cx} {C P aI aD' aS aD aP aV aW aT aF : Addr} {cdW cdT : Value}
theorem OU1.nameC {d : Nat} {fx : Fx} {σ : St} {x : Str} {pos : Pos} {v : V} {i : Nat} {v₀ : Option V} {Q : St → Prop} (e : fx.cl.lookup x = some i) (ho : σ.hp[i]? = some (.cell v₀)) (q : Q ⟨σ.loc, σ.hp.set i (.cell (some v))⟩) (hx : fx.env.kindOf x = some .cell := by rfl) :
    OU1 c d fx (fun y => PySem.assign (.Name x pos) fx.env y) v σ (fun _ σ' => Q σ') := fun ρ s A y R r hv => by
  obtain ⟨loc, hp⟩ := σ
  show wpAny c.M A (PySem.assign (.Name x pos) fx.env y) _ _ s
  rw [PySem.assign_Name]
  exact wpAny_bind (wpAny_standAt (wpAny_bindName (storeC r hv e ho (fun s' e' r' => ⟨ρ, _, List.prefix_refl _, e', r', q⟩) hx)))
noncomputable abbrev bodyB : List Stmt := match nthS (fBody (stmt 9)) 4 with
  | .For _ _ body _ _ => body
  | _ => []
noncomputable abbrev bodyC : List Stmt := match nthS (fBody (stmt 9)) 7 with
  | .For _ _ body _ _ => body
  | _ => []
inductive Built (C P : Addr) (F : List Nat) (jF jr je : Nat) (i : Nat) (σ : St) : Prop
  | mk (ri es ns : List Nat) (rs : List (List Spec)) (l0 : at_ σ.loc "rows" = some (.ref jr)) (len : rs.length = i) (L : LawS C P σ.hp F jF jr je ri es ns rs rs (rs.map fun r => r.getD 0 .nul)) : Built C P F jF jr je i σ
theorem turnB {F : List Nat} {jF jr je i : Nat} {σ : St} {Lo fa : Addr} {cd : Value} {ρ₁ : List Addr} {cells : List (Str × Addr)} (Z : ErrK c.K C aI aD' aS) (D : DigK c.K aD) (S : SpcK c.K aP aV) (K : LawK c.K) (hF : F ≠ []) (hF40 : F.length ≤ 40) (hF24 : ∀ f ∈ F, f < 24) (hi : i < 4)
    (B : Built C P F jF jr je i σ) :
    XV c 12 ⟨envX "law" (fScope (stmt 9)) Lo fa cd cells, cl5, ρ₁⟩ (execs bodyB (envX "law" (fScope (stmt 9)) Lo fa cd cells)) ⟨σ.loc, σ.hp.set 3 (.cell (some (.int (i : Nat))))⟩ (fun f σ' => f = .next ∧ Built C P F jF jr je (i + 1) σ') := by
  obtain ⟨ri, es, ns, rs, l0, len, L⟩ := B
  have L1 := L.set4 (some (.int (i : Nat)))
  obtain ⟨Y, hY⟩ : ∃ Y, Y = σ.hp.set 3 (.cell (some (.int (i : Nat)))) := ⟨_, rfl⟩
  have c4 : Y[3]? = some (.cell (some (.int (i : Nat)))) := by obtain ⟨v, hv⟩ := L.c4; rw [hY]; exact set_at hv
  rw [← hY] at L1 ⊢
  clear hY L
  refine XV.cons ?_
  refine XV.expr ?_
  refine EV.append ?_
  refine EV.var l0 ⟨⟨_, _, rfl, L1.rows.lst⟩, ?_⟩
  refine EVs.cons ?_
  refine EV.comp (cl' := [("size", 1), ("i", 3), ("figures", 0)]) (by rfl) ?_
  refine EV.callT K.gRange Boot.«range» (by decide) ?_
  refine EVs.cons ?_
  refine EV.cint ?_
  refine EVs.nil ?_
  refine OVs.range1 ?_
  dsimp only
  obtain ⟨B, hB⟩ : ∃ B, B = Y ++ [O.rng 0 3 1] := ⟨_, rfl⟩
  rw [← hB]
  have b0 : B[Y.length]? = some (.rng 0 (3 : Nat) 1) := by rw [hB]; exact ga
  have bf : ∀ {j : Nat} {o : O}, Y[j]? = some o → B[j]? = some o := fun h => by rw [hB]; exact app_get h
  have LB : LawS C P B F jF jr je ri es ns rs rs (rs.map fun r => r.getD 0 .nul) := by rw [hB]; exact L1.app
  have hBl : Y.length ≤ B.length := by rw [hB]; simp
  clear hB
  refine ⟨3, _, _, fun m acc hp' => ∃ row g, acc = row.map Spec.v ∧ row.length = m ∧ (∀ s ∈ row, s.ok i) ∧ hp' = B ++ .list acc :: g, Src.upto b0 (by decide), ⟨[], [], rfl, rfl, by simp, rfl⟩, ⟨?_, ?_⟩, ?_⟩
  · rintro m acc hp' ⟨row, g, rfl, hl, ok, rfl⟩
    exact ⟨ga, fun _ => trivial⟩
  · rintro C' clos ρ₂ m acc hp' hm ⟨row, g, rfl, hl, ok, rfl⟩
    have L2 : LawS C P (B ++ .list (row.map Spec.v) :: g) F jF jr je ri es ns rs rs (rs.map fun r => r.getD 0 .nul) := LB.app
    have c42 : (B ++ .list (row.map Spec.v) :: g)[3]? = some (.cell (some (.int (i : Nat)))) := app_get (bf c4)
    obtain ⟨x, hx, hx24⟩ : ∃ x, F[(3 * i + m) % F.length]? = some x ∧ x < 24 := by
      have h0 : 0 < F.length := List.length_pos_iff.mpr hF
      have := Nat.mod_lt (3 * i + m) h0
      exact ⟨_, List.getElem?_eq_getElem this, hF24 _ (List.getElem_mem this)⟩
    have hFl : (F.length : Int) ≠ 0 := by have := List.length_pos_iff.mpr hF; omega
    show EV _ _ _ _ _ _
    refine EV.call 4 S.gS S.kS ?_
    refine EVs.cons ?_
    refine EV.sub ?_
    refine EV.cell (i := 0) rfl L2.c1 ?_
    refine EV.binop ?_
    refine EV.binop ?_
    refine EV.binop ?_
    refine EV.cint ?_
    refine EV.cell (i := 3) rfl c42 ?_
    refine OV2.mul_int (.of_left (by decide)) ?_
    refine EV.var rfl ?_
    refine OV2.add_int ?_
    refine EV.cell (i := 1) rfl L2.c2 ?_
    refine OV2.mod_int hFl ?_
    rw [show ((3 : Int) * ((i : Nat) : Int) + ((m : Nat) : Int)) = ((3 * i + m : Nat) : Int) by omega, fm (3 * i + m) (b := F.length)]
    refine OV2.item L2.fig (by omega) (v := .int (x : Nat)) (by rw [Int.toNat_natCast]; unfold ivs; rw [List.getElem?_map, hx]; rfl) (by unfold ivs; rw [List.length_map]; omega) ?_
    refine EVs.cons ?_
    refine EV.cell (i := 3) rfl c42 ?_
    refine EVs.nil ?_
    refine (lawSpec D S hx24 (show i < 1000 by omega)).mono fun v hp' ⟨sp, g', e1, e2, e3⟩ => ?_
    subst e1; subst e3
    refine ⟨by rw [List.append_assoc]; exact ga, by simp; omega, row ++ [sp], g ++ g', by rw [List.map_append]; rfl, by simp [hl], fun s hs => ?_, by rw [List.append_assoc]; exact sa⟩
    rcases List.mem_append.mp hs with hs | hs
    · exact ok s hs
    · rw [List.mem_singleton] at hs; subst hs; exact e2
  rintro acc hp' ⟨row, g, rfl, hl, ok, rfl⟩
  obtain ⟨s0, s1, s2, rfl⟩ : ∃ s0 s1 s2, row = [s0, s1, s2] := by
    rcases row with _ | ⟨a, _ | ⟨b, _ | ⟨d, _ | ⟨e, r⟩⟩⟩⟩ <;> simp at hl
    exact ⟨_, _, _, rfl⟩
  refine EVs.nil ?_
  have hri := L1.rows.len
  have rne : ∀ {j : Nat} {o : O}, B[j]? = some o → B.length ≠ j := fun h e => by have := lt_of_get h; omega
  have L3 : LawS C P (B ++ .list ([s0, s1, s2].map Spec.v) :: g) F jF jr je ri es ns rs rs (rs.map fun r => r.getD 0 .nul) := LB.app
  have L4 := L3.addRow (r := B.length) (row := [s0, s1, s2]) ga (rne LB.fig) (rne LB.rows.lst) (rne LB.lst) (fun m => by
      obtain ⟨j, hj, e⟩ := List.getElem_of_mem m
      have hj' : j < rs.length := by rw [← hri]; exact hj
      have := LB.rows.row j rs[j] (List.getElem?_eq_getElem hj')
      rw [List.getD_eq_getElem?_getD, List.getElem?_eq_getElem hj] at this
      exact rne this e.symm) rfl (by rw [len]; exact ok) (by omega)
  refine OVs.append L3.rows.lst (by rw [List.length_map, hri]; omega) ?_
  show XV _ _ _ _ _ _
  have jc4 : ((B ++ .list ([s0, s1, s2].map Spec.v) :: g).set jr (.list (refs (ri ++ [B.length]))))[3]? = some (.cell (some (.int (i : Nat)))) := set_ne (ne_kind O.isCell (app_get (bf c4)) L3.rows.lst rfl rfl) (app_get (bf c4))
  obtain ⟨D1, hD1⟩ : ∃ D1, D1 = (B ++ O.list ([s0, s1, s2].map Spec.v) :: g).set jr (.list (refs (ri ++ [B.length]))) := ⟨_, rfl⟩
  rw [← hD1] at L4 jc4
  refine XV.st2 (loc' := σ.loc) (hp' := D1) rfl (by rw [hD1]; simp [refs]) ?_
  clear hD1 L3
  generalize ri ++ [B.length] = ri' at L4
  clear b0 bf hBl rne hri LB L1
  have hrl : (rs ++ [[s0, s1, s2]]).length = i + 1 := by simp [len]
  have hri' := L4.rows.len
  have hri0 : (rs ++ [[s0, s1, s2]])[i]? = some [s0, s1, s2] := by rw [← len]; simp
  refine XV.cons ?_
  refine XV.assignT ?_
  refine EV.comp (cl' := [("errors", 2)]) (by rfl) ?_
  refine EV.sub ?_
  refine EV.var l0 ?_
  refine EV.cell (i := 3) rfl jc4 ?_
  refine OV2.item L4.rows.lst (by omega) (v := .ref (ri'.getD i 0)) (by rw [Int.toNat_natCast]; exact ref_get (by rw [hri', hrl]; omega)) (by rw [List.length_map, hri', hrl]; omega) ?_
  have hel := L4.errs.elen
  refine ⟨_, _, _, fun m acc hp' => acc = (([s0, s1, s2].take m).map (valOf es)) ∧ hp' = D1 ++ [.list acc], Src.list (L4.rows.row i _ hri0), ⟨rfl, rfl⟩, ⟨?_, ?_⟩, ?_⟩
  · rintro m acc hp' ⟨rfl, rfl⟩
    exact ⟨ga, fun _ => app_get (L4.rows.row i _ hri0)⟩
  · rintro C' clos ρ₂ m acc hp' hm ⟨rfl, rfl⟩
    have hm : m < 3 := hm
    obtain ⟨s, hs1, hs2, hs3⟩ : ∃ s, (List.map Spec.v [s0, s1, s2]).getD m .none = s.v ∧ s.ok i ∧ [s0, s1, s2].take (m + 1) = [s0, s1, s2].take m ++ [s] := by
      match m, hm with
      | 0, _ => exact ⟨s0, rfl, ok _ (by simp), rfl⟩
      | 1, _ => exact ⟨s1, rfl, ok _ (by simp), rfl⟩
      | 2, _ => exact ⟨s2, rfl, ok _ (by simp), rfl⟩
    show CT c _ _ _ _ ⟨[(_, (List.map Spec.v [s0, s1, s2]).getD m .none)], _⟩ _
    rw [hs1]
    show EV _ _ _ _ _ _
    refine EV.call 2 S.gV S.kV ?_
    refine EVs.cons ?_
    refine EV.var rfl ?_
    refine EVs.cons ?_
    refine EV.cell (i := 2) rfl (app_get L4.c3) ?_
    refine EVs.nil ?_
    refine (lawValue S (app_get L4.lst) (hs2.le (by omega)) (by omega)).mono fun v hp' ⟨q1, q2⟩ => ?_
    subst q1; subst q2
    exact ⟨ga, by simp; omega, by rw [hs3, List.map_append]; rfl, sa⟩
  rintro acc hp' ⟨rfl, rfl⟩
  refine OU1.tupleL ga rfl ?_
  show OU1 _ _ _ _ _ _ _
  refine OU1.name ?_
  show OU1 _ _ _ _ _ _ _
  refine OU1.name ?_
  show OU1 _ _ _ _ _ _ _
  refine OU1.name ?_
  show XV _ _ _ _ _ _
  obtain ⟨D2, hD2⟩ : ∃ D2, D2 = D1 ++ [O.list (([s0, s1, s2].take 3).map (valOf es))] := ⟨_, rfl⟩
  have L5 : LawS C P D2 F jF jr je ri' es ns (rs ++ [[s0, s1, s2]]) rs (rs.map fun r => r.getD 0 .nul) := by rw [hD2]; exact L4.app
  refine XV.st2 (loc' := put "lineno" (valOf es s2) (put "filename" (valOf es s1) (put "msg" (valOf es s0) σ.loc))) (hp' := D2) rfl (by rw [hD2]; rfl) ?_
  clear hD2
  refine XV.cons ?_
  refine XV.expr ?_
  refine EV.append ?_
  refine EV.cell (i := 2) rfl L5.c3 ⟨⟨_, _, rfl, L5.lst⟩, ?_⟩
  refine EVs.cons ?_
  refine EV.call 3 Z.gC Z.kC ?_
  refine EVs.cons ?_
  refine EV.var (lk_ne (lk_ne lk_eq (by decide)) (by decide)) ?_
  refine EVs.cons ?_
  refine EV.var (lk_ne lk_eq (by decide)) ?_
  refine EVs.cons ?_
  refine EV.var lk_eq ?_
  refine EVs.nil ?_
  refine (newErr Z).mono fun v hp' ⟨q1, q2⟩ => ?_
  subst q1; subst q2
  refine EVs.nil ?_
  have L6 : LawS C P (D2 ++ [.exc C (some (D2.length + 1)) (.tup [valOf es s0]) false, ens (valOf es s1) (valOf es s2) (valOf es s0)]) F jF jr je ri' es ns (rs ++ [[s0, s1, s2]]) rs (rs.map fun r => r.getD 0 .nul) := L5.app
  have L7 := L6.addErr (e := D2.length) (n := D2.length + 1) ga (blk_get (n := 1) rfl) (fun m => by
    obtain ⟨j, hj, e⟩ := List.getElem_of_mem m
    have hnl := L5.errs.nlen
    obtain ⟨t0, t1, t2, ht⟩ : ∃ t0 t1 t2, rs[j]? = some [t0, t1, t2] := by
      obtain ⟨t0, t1, t2, ht⟩ := row3 L5.rows.toRowsA (i := j) (by simp; omega)
      rw [List.getElem?_append_left (by omega)] at ht
      exact ⟨_, _, _, ht⟩
    obtain ⟨f, hf⟩ : ∃ f, (rs.map fun r => r.getD 0 .nul)[j]? = some f := ⟨_, List.getElem?_eq_getElem (by rw [List.length_map]; omega)⟩
    have := (L5.errs.at_ j t0 t1 t2 f ht hf).2
    rw [List.getD_eq_getElem?_getD, List.getElem?_eq_getElem hj] at this
    have := lt_of_get this
    rw [show (some ns[j]).getD 0 = ns[j] from rfl, e] at this
    omega)
  refine OVs.append L6.lst (by rw [List.length_map, hel]; omega) ?_
  refine XV.nil ⟨rfl, ?_⟩
  refine ⟨ri', es ++ [D2.length], ns ++ [D2.length + 1], rs ++ [[s0, s1, s2]], lk_ne (lk_ne (lk_ne l0 (by decide)) (by decide)) (by decide), hrl, ?_⟩
  rw [List.map_append]
  have e : (O.list (refs es ++ [V.ref D2.length])) = .list (refs (es ++ [D2.length])) := by simp [refs]
  dsimp only
  rw [e]
  exact L7
end
end Mine
namespace Mine
open PySem PySem.W PyProof.Rows PySem.SeqAt
theorem ivs_get {F : List Nat} {i f : Nat} (h : F[i]? = some f) : (ivs F)[i]? = some (.int (f : Nat)) := by unfold ivs; rw [List.getElem?_map, h]; rfl
section
variable {c : Cx} {C P aI aD' aS aD aP aV aW aT aF : Addr} {cdW cdT : Value}
inductive Changed (C P : Addr) (F : List Nat) (jF jr je jf n : Nat) (fs : List Spec) (σ : St) : Prop
  | mk (ri es ns : List Nat) (rs : List (List Spec)) (l0 : at_ σ.loc "rows" = some (.ref jr)) (l1 : at_ σ.loc "firsts" = some (.ref jf)) (h : σ.hp[jf]? = some (.list (fs.map Spec.v))) (d : jf ∉ ri) (len : rs.length = n)
    (L : LawS C P σ.hp F jF jr je ri es ns rs rs fs) : Changed C P F jF jr je jf n fs σ
theorem turnCh {F : List Nat} {jF jr je jf i n : Nat} {fs : List Spec} {σ : St} {Lo fa : Addr} {cd : Value} {ρ₁ : List Addr} {cells : List (Str × Addr)} (Z : ErrK c.K C aI aD' aS) (D : DigK c.K aD) (S : SpcK c.K aP aV) (K : LawK c.K) (hF : F ≠ []) (hF40 : F.length ≤ 40) (hF24 : ∀ f ∈ F, f < 24) (hi : i < 7)
    (h0 : 0 < n) (h4 : n ≤ 4) (B : Changed C P F jF jr je jf n fs σ) :
    XV c 12 ⟨envX "law" (fScope (stmt 9)) Lo fa cd cells, cl5, ρ₁⟩ (execs bodyC (envX "law" (fScope (stmt 9)) Lo fa cd cells)) ⟨σ.loc, σ.hp.set 4 (.cell (some (.int (i : Nat))))⟩ (fun f σ' => f = .next ∧ Changed C P F jF jr je jf n fs σ') := by
  obtain ⟨ri, es, ns, rs, l0, l1, hjf, hd, len, L⟩ := B
  have L1 := L.set5 (some (.int (i : Nat)))
  have yf : (σ.hp.set 4 (.cell (some (.int (i : Nat)))))[jf]? = some (.list (fs.map Spec.v)) := by obtain ⟨v, hv⟩ := L.c5; exact set_ne (ne_kind O.isList hjf hv rfl rfl) hjf
  obtain ⟨Y, hY⟩ : ∃ Y, Y = σ.hp.set 4 (.cell (some (.int (i : Nat)))) := ⟨_, rfl⟩
  have c5 : Y[4]? = some (.cell (some (.int (i : Nat)))) := by obtain ⟨v, hv⟩ := L.c5; rw [hY]; exact set_at hv
  rw [← hY] at L1 yf ⊢
  clear hY L hjf
  have hri := L1.rows.len
  have hel := L1.errs.elen
  refine XV.cons ?_
  refine XV.assignT ?_
  refine EV.comp (cl' := [("size", 1), ("figures", 0), ("c", 4)]) (by rfl) ?_
  refine EV.callT K.gRange Boot.«range» (by decide) ?_
  refine EVs.cons ?_
  refine EV.cint ?_
  refine EVs.nil ?_
  refine OVs.range1 ?_
  dsimp only
  obtain ⟨B, hB⟩ : ∃ B, B = Y ++ [O.rng 0 3 1] := ⟨_, rfl⟩
  rw [← hB]
  have b0 : B[Y.length]? = some (.rng 0 (3 : Nat) 1) := by rw [hB]; exact ga
  have bf : ∀ {j : Nat} {o : O}, Y[j]? = some o → B[j]? = some o := fun h => by rw [hB]; exact app_get h
  have LB : LawS C P B F jF jr je ri es ns rs rs fs := by rw [hB]; exact L1.app
  clear hB
  refine ⟨3, _, _, fun m acc hp' => ∃ X : List Nat, acc = ivs X ∧ X.length = m ∧ (∀ x ∈ X, x < 24) ∧ hp' = B ++ [.list acc], Src.upto b0 (by decide), ⟨[], rfl, rfl, by simp, rfl⟩, ⟨?_, ?_⟩, ?_⟩
  · rintro m acc hp' ⟨X, rfl, hl, hx, rfl⟩
    exact ⟨ga, fun _ => trivial⟩
  · rintro C' clos ρ₂ m acc hp' hm ⟨X, rfl, hl, hX, rfl⟩
    obtain ⟨x, hx, hx24⟩ : ∃ x, F[(15 + 3 * i + m) % F.length]? = some x ∧ x < 24 := by
      have h0 : 0 < F.length := List.length_pos_iff.mpr hF
      have := Nat.mod_lt (15 + 3 * i + m) h0
      exact ⟨_, List.getElem?_eq_getElem this, hF24 _ (List.getElem_mem this)⟩
    have hFl : (F.length : Int) ≠ 0 := by have := List.length_pos_iff.mpr hF; omega
    show EV _ _ _ _ _ _
    refine EV.sub ?_
    refine EV.cell (i := 0) rfl (app_get LB.c1) ?_
    refine EV.binop ?_
    refine EV.binop ?_
    refine EV.binop ?_
    refine EV.cint ?_
    refine EV.binop ?_
    refine EV.cint ?_
    refine EV.cell (i := 4) rfl (app_get (bf c5)) ?_
    refine OV2.mul_int (.of_left (by decide)) ?_
    refine OV2.add_int ?_
    refine EV.var rfl ?_
    refine OV2.add_int ?_
    refine EV.cell (i := 1) rfl (app_get LB.c2) ?_
    refine OV2.mod_int hFl ?_
    rw [show ((15 : Int) + (3 : Int) * ((i : Nat) : Int) + ((m : Nat) : Int)) = ((15 + 3 * i + m : Nat) : Int) by omega, fm (15 + 3 * i + m) (b := F.length)]
    refine OV2.item (app_get LB.fig) (by omega) (v := .int (x : Nat)) (by rw [Int.toNat_natCast]; exact ivs_get hx) (by unfold ivs; rw [List.length_map]; omega) ?_
    refine ⟨ga, by rw [ivs_len]; omega, X ++ [x], by simp [ivs], by simp [hl], fun y hy => ?_, sa⟩
    rcases List.mem_append.mp hy with hy | hy
    · exact hX y hy
    · rw [List.mem_singleton] at hy; subst hy; exact hx24
  rintro acc hp' ⟨X, rfl, hl, hX, rfl⟩
  obtain ⟨x0, x1, x2, rfl⟩ : ∃ x0 x1 x2, X = [x0, x1, x2] := by
    rcases X with _ | ⟨a, _ | ⟨b, _ | ⟨d, _ | ⟨e, r⟩⟩⟩⟩ <;> simp at hl
    exact ⟨_, _, _, rfl⟩
  have hx2 := hX x2 (by simp)
  refine OU1.tupleL ga rfl ?_
  show OU1 _ _ _ _ _ _ _
  refine OU1.name ?_
  show OU1 _ _ _ _ _ _ _
  refine OU1.name ?_
  show OU1 _ _ _ _ _ _ _
  refine OU1.name ?_
  show XV _ _ _ _ _ _
  obtain ⟨B2, hB2⟩ : ∃ B2, B2 = B ++ [O.list (ivs [x0, x1, x2])] := ⟨_, rfl⟩
  have L2 : LawS C P B2 F jF jr je ri es ns rs rs fs := by rw [hB2]; exact LB.app
  have b2f : B2[jf]? = some (.list (fs.map Spec.v)) := by rw [hB2]; exact app_get (bf yf)
  refine XV.st2 (loc' := put "figure" (.int (x2 : Nat)) (put "field" (.int (x1 : Nat)) (put "which" (.int (x0 : Nat)) σ.loc))) (hp' := B2) rfl (by rw [hB2]) ?_
  clear hB2 LB bf b0 L1 c5 yf
  refine XV.cons ?_
  refine XV.assign ?_
  refine EV.binop ?_
  refine EV.var (lk_ne (lk_ne lk_eq (by decide)) (by decide)) ?_
  refine EV.callB K.gLen Boot.«len» (by decide) ?_
  refine EVs.cons ?_
  refine EV.cell (i := 2) rfl L2.c3 ?_
  refine EVs.nil ?_
  refine OVs.len_list L2.lst (by rw [List.length_map]; omega) ?_
  rw [List.length_map, hel, len]
  refine OV2.mod_int (by omega) ?_
  rw [fm x0 (b := n)]
  obtain ⟨w, hw⟩ : ∃ w, w = x0 % n := ⟨_, rfl⟩
  have hwn : w < n := by rw [hw]; exact Nat.mod_lt _ h0
  rw [← hw]
  refine XV.cons ?_
  refine XV.assign ?_
  refine EV.call 4 S.gS S.kS ?_
  refine EVs.cons ?_
  refine EV.var (lk_ne lk_eq (by decide)) ?_
  refine EVs.cons ?_
  refine EV.var lk_eq ?_
  refine EVs.nil ?_
  refine (lawSpec D S hx2 (show w < 1000 by omega)).mono fun v hp' ⟨sp, g, e1, ok, e3⟩ => ?_
  subst e1; subst e3
  have L3 : LawS C P (B2 ++ g) F jF jr je ri es ns rs rs fs := L2.app
  have b3f : (B2 ++ g)[jf]? = some (.list (fs.map Spec.v)) := app_get b2f
  dsimp only
  generalize B2 ++ g = B3 at L3 b3f
  clear L2 b2f hw
  obtain ⟨s0, s1, s2, hr⟩ := row3 L3.rows.toRowsA (i := w) (by omega)
  have hrow := L3.rows.row w _ hr
  have hk3 : x1 % 3 < 3 := Nat.mod_lt _ (by decide)
  obtain ⟨loc, hloc⟩ : ∃ loc, loc = put "spec" sp.v (put "which" (.int (w : Nat)) (put "figure" (.int (x2 : Nat)) (put "field" (.int (x1 : Nat)) (put "which" (.int (x0 : Nat)) σ.loc)))) := ⟨_, rfl⟩
  have v1 : at_ loc "spec" = some sp.v := by rw [hloc]; exact lk_eq
  have v2 : at_ loc "which" = some (.int (w : Nat)) := by rw [hloc]; exact lk_ne lk_eq (by decide)
  have v3 : at_ loc "field" = some (.int (x1 : Nat)) := by rw [hloc]; exact lk_ne (lk_ne (lk_ne lk_eq (by decide)) (by decide)) (by decide)
  have v4 : at_ loc "rows" = some (.ref jr) := by rw [hloc]; exact lk_ne (lk_ne (lk_ne (lk_ne (lk_ne l0 (by decide)) (by decide)) (by decide)) (by decide)) (by decide)
  have v5 : at_ loc "firsts" = some (.ref jf) := by rw [hloc]; exact lk_ne (lk_ne (lk_ne (lk_ne (lk_ne l1 (by decide)) (by decide)) (by decide)) (by decide)) (by decide)
  refine XV.st2 (loc' := loc) (hp' := B3) hloc.symm rfl ?_
  clear hloc
  refine XV.cons ?_
  refine XV.setsub ?_
  refine EV.var v1 ?_
  refine EV.sub ?_
  refine EV.var v4 ?_
  refine EV.var v2 ?_
  refine OV2.item L3.rows.lst (by omega) (v := .ref (ri.getD w 0)) (by rw [Int.toNat_natCast]; exact ref_get (by omega)) (by rw [List.length_map]; omega) ?_
  refine EV.binop ?_
  refine EV.var v3 ?_
  refine EV.cint ?_
  refine OV2.mod_int (by decide) ?_
  rw [show ((x1 : Int).fmod 3) = ((x1 % 3 : Nat) : Int) from fm x1 (b := 3)]
  refine ⟨_, _, _, rfl, rfl, hrow, by omega, by simp; omega, (show (3 : Nat) < 2 ^ 62 by decide), ?_⟩
  have L4 := L3.updRow (k := x1 % 3) hr ok
  have b4f : (B3.set (ri.getD w 0) (.list (([s0, s1, s2].map Spec.v).set (x1 % 3) sp.v)))[jf]? = some (.list (fs.map Spec.v)) := set_ne (fun e => hd (e ▸ getD_mem (by omega))) b3f
  show XV _ _ _ _ _ _
  rw [show (((x1 % 3 : Nat) : Int)).toNat = x1 % 3 from Int.toNat_natCast _]
  dsimp only
  have m3 : ((x1 : Int).fmod 3) = ((x1 % 3 : Nat) : Int) := fm x1 (b := 3)
  generalize x1 % 3 = k at L4 b4f hk3 m3
  generalize B3.set (ri.getD w 0) (.list (([s0, s1, s2].map Spec.v).set k sp.v)) = B4 at L4 b4f
  have hrs' : rs.length = n := len
  obtain ⟨f, hf⟩ : ∃ f, fs[w]? = some f := ⟨_, List.getElem?_eq_getElem (by rw [L4.errs.flen]; omega)⟩
  obtain ⟨a1, a2⟩ := L4.errs.at_ w s0 s1 s2 f hr hf
  have vv : FV c 2 (.top aV) [sp.v, .ref je] B4 (fun v hp' => v = valOf es sp ∧ hp' = B4) := lawValue S L4.lst (ok.le (by omega)) (by omega)
  have sube : ∀ {Q : V → St → Prop} {p1 p2 p3 : Pos}, Q (.ref (es.getD w 0)) ⟨loc, B4⟩ →
      EV c 12 ⟨envX "law" (fScope (stmt 9)) Lo fa cd cells, cl5, ρ₁⟩ (eval (.Subscript (.Name "errors" p1) (.Name "which" p2) p3) (envX "law" (fScope (stmt 9)) Lo fa cd cells)) ⟨loc, B4⟩ Q := fun q => by
    refine EV.sub ?_
    refine EV.cell (i := 2) rfl L4.c3 ?_
    refine EV.var v2 ?_
    refine OV2.item L4.lst (by omega) (v := .ref (es.getD w 0)) (by rw [Int.toNat_natCast]; exact ref_get (by omega)) (by rw [List.length_map]; omega) ?_
    exact q
  have fin : ∀ (t0 t1 t2 : Spec), [s0, s1, s2].set k sp = [t0, t1, t2] → Changed C P F jF jr je jf n fs ⟨loc, B4.set (ns.getD w 0) (ens (valOf es t1) (valOf es t2) (valOf es t0))⟩ := fun t0 t1 t2 e => by
    have L5 := L4.updErr (t0 := t0) (t1 := t1) (t2 := t2) hr
    rw [e] at L5
    exact ⟨ri, es, ns, rs.set w [t0, t1, t2], v4, v5, set_ne (ne_kind O.isList b4f a2 rfl rfl) b4f, hd, by rw [List.length_set]; exact len, L5⟩
  refine XV.cons ?_
  refine XV.ifB ?_
  refine TV.cmp ?_
  refine EV.binop ?_
  refine EV.var v3 ?_
  refine EV.cint ?_
  refine OV2.mod_int (by decide) ?_
  rw [m3]
  refine EV.cint ?_
  refine OV2.eq_int ⟨_, rfl, fun h => ?_, fun h => ?_⟩
  · have hk : k = 0 := by have := beq_iff_eq.mp h; omega
    subst hk
    refine XV.cons ?_
    refine XV.setattrE ?_
    refine EV.call 2 S.gV S.kV ?_
    refine EVs.cons ?_
    refine EV.var v1 ?_
    refine EVs.cons ?_
    refine EV.cell (i := 2) rfl L4.c3 ?_
    refine EVs.nil ?_
    refine vv.mono fun v hp' ⟨q1, q2⟩ => ?_
    subst q1; subst q2
    refine sube ?_
    refine ⟨_, C, _, _, _, _, rfl, a1, a2, Z.cls, by unfold takerIn; rw [Z.a3]; rfl, (show (3 : Nat) < 1000 by decide), ?_⟩
    refine XV.nil ?_
    refine XV.nil ⟨rfl, ?_⟩
    exact fin sp s1 s2 rfl
  · refine XV.cons ?_
    refine XV.ifB ?_
    refine TV.cmp ?_
    refine EV.binop ?_
    refine EV.var v3 ?_
    refine EV.cint ?_
    refine OV2.mod_int (by decide) ?_
    rw [m3]
    refine EV.cint ?_
    refine OV2.eq_int ⟨_, rfl, fun h1 => ?_, fun h1 => ?_⟩
    · have hk : k = 1 := by have := beq_iff_eq.mp h1; omega
      subst hk
      refine XV.cons ?_
      refine XV.setattrE ?_
      refine EV.call 2 S.gV S.kV ?_
      refine EVs.cons ?_
      refine EV.var v1 ?_
      refine EVs.cons ?_
      refine EV.cell (i := 2) rfl L4.c3 ?_
      refine EVs.nil ?_
      refine vv.mono fun v hp' ⟨q1, q2⟩ => ?_
      subst q1; subst q2
      refine sube ?_
      refine ⟨_, C, _, _, _, _, rfl, a1, a2, Z.cls, by unfold takerIn; rw [Z.a1]; rfl, (show (3 : Nat) < 1000 by decide), ?_⟩
      refine XV.nil ?_
      refine XV.nil ?_
      refine XV.nil ⟨rfl, ?_⟩
      exact fin s0 sp s2 rfl
    · have hk : k = 2 := by
        have := natNe (b := 0) h
        have := natNe (b := 1) h1
        omega
      subst hk
      refine XV.cons ?_
      refine XV.setattrE ?_
      refine EV.call 2 S.gV S.kV ?_
      refine EVs.cons ?_
      refine EV.var v1 ?_
      refine EVs.cons ?_
      refine EV.cell (i := 2) rfl L4.c3 ?_
      refine EVs.nil ?_
      refine vv.mono fun v hp' ⟨q1, q2⟩ => ?_
      subst q1; subst q2
      refine sube ?_
      refine ⟨_, C, _, _, _, _, rfl, a1, a2, Z.cls, by unfold takerIn; rw [Z.a2]; rfl, (show (3 : Nat) < 1000 by decide), ?_⟩
      refine XV.nil ?_
      refine XV.nil ?_
      refine XV.nil ⟨rfl, ?_⟩
      exact fin s0 s1 sp rfl
end
end Mine
namespace Mine
open PySem PySem.W PyProof.Rows PySem.SeqAt
section
variable {c : Cx} {C P aI aD' aS aD aP aV aW aT aF : Addr} {cdW cdT : Value}
theorem law {a : Addr} {xs : List Value} {vs : List V} {Lo fa : Addr} {cd : Value} {ρ₀ : List Addr} {cells : List (Str × Addr)} (Z : ErrK c.K C aI aD' aS) (FK : FigK c.K aF) (D : DigK c.K aD) (S : SpcK c.K aP aV) (W : WdsK c.K aW cdW) (T : TldK c.K aT cdT) (K : LawK c.K) (Sc : Scr c a xs vs) :
    XV c 12 ⟨envX "law" (fScope (stmt 9)) Lo fa cd cells, cl5, ρ₀⟩ (execs (fBody (stmt 9)) (envX "law" (fScope (stmt 9)) Lo fa cd cells)) ⟨[("script", .top a)], hp5⟩ Xend := by
  refine XV.cons ?_
  refine XV.assignC (i := 0) ?_ rfl
  refine EV.call 2 FK.gF FK.kF ?_
  refine EVs.cons ?_
  refine EV.var rfl ?_
  refine EVs.nil ?_
  refine (lawFigures FK Sc).mono ?_
  rintro _ _ ⟨F, fI, g₁, rfl, rfl, hf, hfi, hFl, hFn, hF24⟩
  have hfi : 5 ≤ fI := hfi
  refine ⟨none, rfl, ?_⟩
  dsimp only
  show XV _ _ _ _ _ _
  refine XV.st2 (loc' := [("script", .top a)]) (hp' := [.cell (some (.ref fI)), .cell none, .cell none, .cell none, .cell none] ++ g₁) rfl rfl ?_
  have hf1 : (([.cell (some (.ref fI)), .cell none, .cell none, .cell none, .cell none] : List O) ++ g₁)[fI]? = some (.list (ivs F)) := by
    rw [List.getElem?_append_right (by simpa using hfi)] at hf ⊢; exact hf
  refine XV.cons ?_
  refine XV.assignC (i := 1) ?_ rfl
  refine EV.callB K.gLen Boot.«len» (by decide) ?_
  refine EVs.cons ?_
  refine EV.cell (i := 0) rfl rfl ?_
  refine EVs.nil ?_
  refine OVs.len_list hf1 (by rw [ivs_len]; omega) ?_
  rw [ivs_len]
  refine ⟨none, rfl, ?_⟩
  dsimp only
  show XV _ _ _ _ _ _
  have h6 : ∀ (v1 v2 v3 : Option V) (g : List O), ([.cell v1, .cell v2, .cell v3, .cell none, .cell none] ++ g : List O).length = 5 + g.length := fun v1 v2 v3 g => by
    simp only [List.length_append, List.length_cons, List.length_nil]
  have hgl : fI < 5 + g₁.length := by have := lt_of_get hf1; rwa [h6] at this
  refine XV.cons ?_
  refine XV.assign ?_
  refine EV.list ?_
  refine EVs.nil ⟨(show (0 : Nat) ≤ 1000 by decide), ?_⟩
  refine XV.st2 (loc' := [("script", .top a), ("rows", .ref (5 + g₁.length))]) (hp' := [.cell (some (.ref fI)), .cell (some (.int F.length)), .cell none, .cell none, .cell none] ++ (g₁ ++ [.list []])) (by rw [← h6 (some (.ref fI)) (some (.int F.length)) none]; rfl) rfl ?_
  refine XV.cons ?_
  refine XV.assignC (i := 2) ?_ rfl
  refine EV.list ?_
  refine EVs.nil ⟨(show (0 : Nat) ≤ 1000 by decide), none, rfl, ?_⟩
  refine XV.st2 (loc' := [("script", .top a), ("rows", .ref (5 + g₁.length))]) (hp' := [.cell (some (.ref fI)), .cell (some (.int F.length)), .cell (some (.ref (6 + g₁.length))), .cell none, .cell none] ++ (g₁ ++ [.list [], .list []])) rfl
    (by rw [show 6 + g₁.length = 5 + (g₁ ++ [O.list []]).length by (simp; omega), ← h6 (some (.ref fI)) (some (.int F.length)) none]; simp; omega) ?_
  have gi : ∀ (k : Nat) (o : O), ([.list [], .list []] : List O)[k]? = some o → ([.cell (some (.ref fI)), .cell (some (.int F.length)), .cell (some (.ref (6 + g₁.length))), .cell none, .cell none] ++ (g₁ ++ [.list [], .list []]) : List O)[5 + g₁.length + k]? = some o := fun k o h => by
    rw [← List.append_assoc, List.getElem?_append_right (by rw [h6]; omega), h6, Nat.add_sub_cancel_left]; exact h
  have L0 : LawS C C ([.cell (some (.ref fI)), .cell (some (.int F.length)), .cell (some (.ref (6 + g₁.length))), .cell none, .cell none] ++ (g₁ ++ [.list [], .list []])) F fI (5 + g₁.length) (6 + g₁.length) [] [] [] [] [] [] := {
    fig := by
      rw [← List.append_assoc]
      refine app_get ?_
      rw [List.getElem?_append_right (by simpa using hfi)] at hf1 ⊢
      exact hf1,
    c1 := rfl,
    c2 := rfl,
    c3 := rfl,
    c4 := ⟨_, rfl⟩,
    c5 := ⟨_, rfl⟩,
    rows := ⟨⟨fun i r h => by simp at h, fun i r h => by simp at h⟩, gi 0 _ rfl, rfl, by decide, fun i r h => by simp at h⟩,
    errs := ⟨rfl, rfl, rfl, fun i s0 s1 s2 f h => by simp at h, fun i f h => by simp at h⟩,
    lst := by have := gi 1 _ rfl; rwa [show 5 + g₁.length + 1 = 6 + g₁.length by omega] at this,
    d1 := by omega,
    d2 := by omega,
    d3 := by omega,
    d4 := by simp,
    d5 := by simp,
    d6 := by simp,
    nd := by simp,
    nsd := by simp }
  generalize 5 + g₁.length = jr at L0
  generalize 6 + g₁.length = je at L0
  generalize ([.cell (some (.ref fI)), .cell (some (.int F.length)), .cell (some (.ref je)), .cell none, .cell none] ++ (g₁ ++ [.list [], .list []]) : List O) = H at L0
  clear gi h6 hgl hf1 hf
  have hsum : (F.map fun f => ((f : Nat) : Int)).sum = ((F.sum : Nat) : Int) := by
    clear hFn hFl hF24 L0
    induction F with
    | nil => rfl
    | cons x r ih => simp [ih]
  refine XV.cons ?_
  refine XV.forS ?_
  refine EV.callT K.gRange Boot.«range» (by decide) ?_
  refine EVs.cons ?_
  refine EV.binop ?_
  refine EV.cint ?_
  refine EV.binop ?_
  refine EV.callB K.gSum Boot.«sum» (by decide) ?_
  refine EVs.cons ?_
  refine EV.cell (i := 0) rfl L0.c1 ?_
  refine EVs.nil ?_
  refine OVs.sum (ns := F.map fun f => ((f : Nat) : Int)) (by have := L0.fig; unfold ivs at this; rw [this, List.map_map]; rfl) (fun n hn => ?_) (by rw [List.length_map]; omega) ?_
  · obtain ⟨f, hf, rfl⟩ := List.mem_map.mp hn
    have := hF24 f hf
    omega
  rw [hsum]
  refine EV.cint ?_
  refine OV2.mod_int (by decide) ?_
  rw [show (((F.sum : Nat) : Int).fmod 4) = ((F.sum % 4 : Nat) : Int) from fm F.sum (b := 4)]
  refine OV2.add_int ?_
  refine EVs.nil ?_
  refine OVs.range1 ?_
  obtain ⟨n, hn⟩ : ∃ n, n = 1 + F.sum % 4 := ⟨_, rfl⟩
  have hn4 : n ≤ 4 := by have := Nat.mod_lt F.sum (show 0 < 4 by decide); omega
  have hn0 : 0 < n := by omega
  rw [show (1 : Int) + ((F.sum % 4 : Nat) : Int) = ((n : Nat) : Int) by omega]
  clear hn hsum
  refine ⟨n, _, _, Src.upto ga (by omega), Built C C F fI jr je, ⟨[], [], [], [], rfl, rfl, L0.app⟩, fun _ _ _ => trivial, ?_, ?_⟩
  · intro ρ₁ hρ₁ i σ hi B
    obtain ⟨v4, hv4⟩ : ∃ v, σ.hp[3]? = some (.cell v) := by obtain ⟨_, _, _, _, _, _, L⟩ := B; exact L.c4
    refine OU1.nameC (i := 3) rfl hv4 ?_
    refine (turnB Z D S K hFn hFl hF24 (by omega) B).mono ?_
    rintro f σ' ⟨rfl, B'⟩
    exact B'
  intro σ ⟨ri, es, ns, rs, l0, len, L⟩
  have hri := L.rows.len
  refine XV.cons ?_
  refine XV.assignComp (cl' := []) (by rfl) ?_
  refine EV.var l0 ?_
  refine ⟨_, _, _, fun m acc hp' => acc = ((rs.take m).map fun r => (r.getD 0 .nul).v) ∧ hp' = σ.hp ++ [.list acc], Src.list L.rows.lst, ⟨by simp, rfl⟩, ⟨?_, ?_⟩, ?_⟩
  · rintro m acc hp' ⟨rfl, rfl⟩
    exact ⟨ga, fun _ => app_get L.rows.lst⟩
  · rintro C' clos ρ₂ m acc hp' hm ⟨rfl, rfl⟩
    have hm : m < rs.length := by rw [List.length_map, hri] at hm; exact hm
    obtain ⟨s0, s1, s2, hr⟩ := row3 L.rows.toRowsA hm
    have hit : (refs ri).getD m .none = .ref (ri.getD m 0) := by rw [List.getD_eq_getElem?_getD, ref_get (by omega)]; rfl
    have htk : rs.take (m + 1) = rs.take m ++ [[s0, s1, s2]] := by rw [List.take_add_one, hr]; rfl
    show CT c _ _ _ _ ⟨[(_, (refs ri).getD m .none)], _⟩ _
    rw [hit]
    show EV _ _ _ _ _ _
    refine EV.sub ?_
    refine EV.var rfl ?_
    refine EV.cint ?_
    refine OV2.item (app_get (L.rows.row m _ hr)) (by decide) (v := s0.v) rfl (show (3 : Nat) < 2 ^ 62 by decide) ?_
    exact ⟨ga, by simp; omega, by rw [htk, List.map_append]; rfl, sa⟩
  rintro acc hp' ⟨rfl, rfl⟩
  refine OU1.name ?_
  show XV _ _ _ _ _ _
  have etk : (rs.take (refs ri).length).map (fun r => (r.getD 0 .nul).v) = (rs.map fun r => r.getD 0 .nul).map Spec.v := by
    rw [List.length_map, hri, List.take_length, List.map_map]; rfl
  dsimp only
  rw [etk]
  obtain ⟨H2, hH2⟩ : ∃ H2, H2 = σ.hp ++ [O.list ((rs.map fun r => r.getD 0 .nul).map Spec.v)] := ⟨_, rfl⟩
  obtain ⟨jf, hjf⟩ : ∃ jf, jf = σ.hp.length := ⟨_, rfl⟩
  have L2 : LawS C C H2 F fI jr je ri es ns rs rs (rs.map fun r => r.getD 0 .nul) := by rw [hH2]; exact L.app
  have hf2 : H2[jf]? = some (.list ((rs.map fun r => r.getD 0 .nul).map Spec.v)) := by rw [hH2, hjf]; exact ga
  have hdf : jf ∉ ri := fun m => by
    obtain ⟨j, hj, e⟩ := List.getElem_of_mem m
    obtain ⟨s0, s1, s2, hr⟩ := row3 L.rows.toRowsA (i := j) (by omega)
    have := L.rows.row j _ hr
    rw [List.getD_eq_getElem?_getD, List.getElem?_eq_getElem hj] at this
    have := lt_of_get this
    rw [show (some ri[j]).getD 0 = ri[j] from rfl, e, hjf] at this
    omega
  rw [← hH2, ← hjf]
  have l1 : at_ (put "firsts" (.ref jf) σ.loc) "rows" = some (.ref jr) := lk_ne l0 (by decide)
  have l2 : at_ (put "firsts" (.ref jf) σ.loc) "firsts" = some (.ref jf) := lk_eq
  generalize put "firsts" (V.ref jf) σ.loc = loc at l1 l2
  generalize (rs.map fun r => r.getD 0 Spec.nul) = fs at L2 hf2
  clear hH2 hjf etk L l0
  have hrl4 : rs.length ≤ 4 := by omega
  refine XV.cons ?_
  refine XV.ifB ?_
  refine TV.not_ ?_
  refine TV.plain ?_
  refine EV.call 9 T.g T.k ?_
  refine EVs.cons ?_
  refine EV.cell (i := 2) rfl L2.c3 ?_
  refine EVs.cons ?_
  refine EV.var l1 ?_
  refine EVs.cons ?_
  refine EV.var l2 ?_
  refine EVs.nil ?_
  refine (lawTold Z S W T L2.rows L2.errs L2.lst hf2 hrl4).mono fun v hp' ⟨q1, g, q2⟩ => ?_
  subst q1; subst q2
  refine OT.bool ⟨fun h => (by cases h), fun _ => ?_⟩
  refine XV.nil ?_
  have L3 : LawS C C (H2 ++ g) F fI jr je ri es ns rs rs fs := L2.app
  have hf3 : (H2 ++ g)[jf]? = some (.list (fs.map Spec.v)) := app_get hf2
  dsimp only
  generalize H2 ++ g = H3 at L3 hf3
  clear L2 hf2
  refine XV.cons ?_
  refine XV.forS ?_
  refine EV.callT K.gRange Boot.«range» (by decide) ?_
  refine EVs.cons ?_
  refine EV.binop ?_
  refine EV.cell (i := 1) rfl L3.c2 ?_
  refine EV.cint ?_
  refine OV2.mod_int (by decide) ?_
  rw [show ((F.length : Int).fmod 7) = ((F.length % 7 : Nat) : Int) from fm F.length (b := 7)]
  refine EVs.nil ?_
  refine OVs.range1 ?_
  have h7 := Nat.mod_lt F.length (show 0 < 7 by decide)
  refine ⟨F.length % 7, _, _, Src.upto ga (by omega), fun _ => Changed C C F fI jr je jf n fs, ⟨ri, es, ns, rs, l1, l2, app_get hf3, hdf, len, L3.app⟩, fun _ _ _ => trivial, ?_, ?_⟩
  · intro ρ₁ hρ₁ i σ hi B
    obtain ⟨v5, hv5⟩ : ∃ v, σ.hp[4]? = some (.cell v) := by obtain ⟨_, _, _, _, _, _, _, _, _, L⟩ := B; exact L.c5
    refine OU1.nameC (i := 4) rfl hv5 ?_
    refine (turnCh Z D S K hFn hFl hF24 (by omega) hn0 hn4 B).mono ?_
    rintro f σ' ⟨rfl, B'⟩
    exact B'
  intro σ ⟨ri, es, ns, rs, l0, l1, hjf, hd, len, L⟩
  refine XV.cons ?_
  refine XV.ret ?_
  refine EV.call 9 T.g T.k ?_
  refine EVs.cons ?_
  refine EV.cell (i := 2) rfl L.c3 ?_
  refine EVs.cons ?_
  refine EV.var l0 ?_
  refine EVs.cons ?_
  refine EV.var l1 ?_
  refine EVs.nil ?_
  refine (lawTold Z S W T L.rows L.errs L.lst hjf (by omega)).mono fun v hp' ⟨q1, g, q2⟩ => ?_
  subst q1; subst q2
  exact rfl
end
end Mine
namespace Mine
open PySem PySem.W PyProof.Rows PySem.SeqAt
theorem ints_rel : ∀ {xs : List Value} {ns : List Int}, IntsAre xs ns → ∀ ρ h, VRs ρ h (ns.map V.int) xs
  | _, _, .nil, _, _ => .nil
  | _, _, .cons n t r, ρ, h => .cons (.int n t) (ints_rel r ρ h)
theorem start {prog : Program} {w : World} {K : Frag} {G h₁ : Heap} {p : Program} {loose : List Str} {mean : ExcName → Option Value} {mg mb : Str → Option Value} {L a fa c1 c2 c3 c4 c5 : Addr} {w1 w2 w3 w4 w5 : Obj} {n1 n2 n3 n4 n5 : Str} {m : Str → Option Value} {cd : Value} {g : Array GenState} {dr : Drawn} {tk : Tok} {os : OsState} {A : Around} {d : Nat} {qual : Str} {scope : Scope} {body : List Stmt}
    (X : K.In G) (T : Top p loose mean mg mb G) (F : Fr G L h₁ m) (N : News G L h₁ [(c5, w5), (c4, w4), (c3, w3), (c2, w2), (c1, w1)]) (hd1 : w1.data = .cell none) (hd2 : w2.data = .cell none) (hd3 : w3.data = .cell none) (hd4 : w4.data = .cell none) (hd5 : w5.data = .cell none) (ho2 : c1 < c2) (ho3 : c2 < c3) (ho4 : c3 < c4) (ho5 : c4 < c5) (hm : m "script" = some (.ref a)) (R : Room d A) (hk : scope.kind = .function)
    (h : XV ⟨prog, w, K, G, p, loose, mg, mb, g, os⟩ d ⟨envX qual scope L fa cd [(n5, c5), (n4, c4), (n3, c3), (n2, c2), (n1, c1)], [(n5, 4), (n4, 3), (n3, 2), (n2, 1), (n1, 0)], [c1, c2, c3, c4, c5]⟩ (execs body (envX qual scope L fa cd [(n5, c5), (n4, c4), (n3, c3), (n2, c2), (n1, c1)])) ⟨[("script", .top a)], [.cell none, .cell none, .cell none, .cell none, .cell none]⟩ (fun f σ => f = .ret (.bool true))) :
    wpAny (model prog w) A (execs body (envX qual scope L fa cd [(n5, c5), (n4, c4), (n3, c3), (n2, c2), (n1, c1)])) (fun f s' => f = .ret (.bool true) ∧ (∃ m', Fr G L s'.heap m') ∧ s'.gens = g ∧ s'.os = os) noE ⟨h₁, g, dr, tk, os⟩ := by
  have ok : Cx.Ok ⟨prog, w, K, G, p, loose, mg, mb, g, os⟩ := ⟨X, topRead_of T, T.bmain⟩
  have hN1 := N (c1, w1) (.tail _ (.tail _ (.tail _ (.tail _ (.head _)))))
  have hN2 := N (c2, w2) (.tail _ (.tail _ (.tail _ (.head _))))
  have hN3 := N (c3, w3) (.tail _ (.tail _ (.head _)))
  have hN4 := N (c4, w4) (.tail _ (.head _))
  have hN5 := N (c5, w5) (.head _)
  have hL : G.get? L = none := get_none_of_lt F.above
  have rel : RelS ⟨prog, w, K, G, p, loose, mg, mb, g, os⟩ ⟨envX qual scope L fa cd [(n5, c5), (n4, c4), (n3, c3), (n2, c2), (n1, c1)], [(n5, 4), (n4, 3), (n3, 2), (n2, 1), (n1, 0)], [c1, c2, c3, c4, c5]⟩ [c1, c2, c3, c4, c5] ⟨[("script", .top a)], [.cell none, .cell none, .cell none, .cell none, .cell none]⟩ ⟨h₁, g, dr, tk, os⟩ := by
    refine ⟨{ toHRel := ⟨F.keep, rfl, by simp; exact ⟨⟨(Nat.ne_of_lt ho2), (Nat.ne_of_lt (Nat.lt_trans ho2 ho3)), (Nat.ne_of_lt (Nat.lt_trans ho2 (Nat.lt_trans ho3 ho4))), (Nat.ne_of_lt (Nat.lt_trans ho2 (Nat.lt_trans ho3 (Nat.lt_trans ho4 ho5))))⟩, ⟨(Nat.ne_of_lt ho3), (Nat.ne_of_lt (Nat.lt_trans ho3 ho4)), (Nat.ne_of_lt (Nat.lt_trans ho3 (Nat.lt_trans ho4 ho5)))⟩, ⟨(Nat.ne_of_lt ho4), (Nat.ne_of_lt (Nat.lt_trans ho4 ho5))⟩, (Nat.ne_of_lt ho5)⟩, fun b hb => ?_, fun i b o e1 e2 => ?_⟩, ok := ok, loc := ⟨m, F.ns, fun x v e => ?_⟩, lfresh := hL, lapart := ?_, pre := List.prefix_refl _, glob := rfl, bltn := rfl, kind := hk, cells := ⟨rfl, rfl, ⟨rfl, rfl, ⟨rfl, rfl, ⟨rfl, rfl, ⟨rfl, rfl, trivial⟩⟩⟩⟩⟩ }, rfl, rfl⟩
    · simp at hb; rcases hb with rfl | rfl | rfl | rfl | rfl
      · exact hN1.2.2
      · exact hN2.2.2
      · exact hN3.2.2
      · exact hN4.2.2
      · exact hN5.2.2
    · match i, e1, e2 with
      | 0, e1, e2 => simp at e1 e2; subst e1; subst e2; exact ⟨_, hN1.1, none, hd1, trivial⟩
      | 1, e1, e2 => simp at e1 e2; subst e1; subst e2; exact ⟨_, hN2.1, none, hd2, trivial⟩
      | 2, e1, e2 => simp at e1 e2; subst e1; subst e2; exact ⟨_, hN3.1, none, hd3, trivial⟩
      | 3, e1, e2 => simp at e1 e2; subst e1; subst e2; exact ⟨_, hN4.1, none, hd4, trivial⟩
      | 4, e1, e2 => simp at e1 e2; subst e1; subst e2; exact ⟨_, hN5.1, none, hd5, trivial⟩
      | i + 5, e1, e2 => simp at e1
    · rw [List.lookup_cons] at e
      cases hb : x == ("script" : Str) with
      | true =>
        rw [hb] at e; cases e
        rw [beq_iff_eq.mp hb]
        exact ⟨_, hm, .top a⟩
      | false => rw [hb] at e; cases e
    · intro q; simp at q; rcases q with q | q | q | q | q
      · exact hN1.2.1 q.symm
      · exact hN2.2.1 q.symm
      · exact hN3.2.1 q.symm
      · exact hN4.2.1 q.symm
      · exact hN5.2.1 q.symm
  refine wpAny_mono (h [c1, c2, c3, c4, c5] _ A R rel) ?_ fun _ _ z => z
  rintro x s' ⟨ρ', f, σ', e, r, hf, rfl⟩
  cases hf with
  | ret hv =>
    cases hv
    obtain ⟨m', hm', _⟩ := r.1.loc
    exact ⟨rfl, ⟨m', hm', r.1.keep, F.above⟩, r.2.1, r.2.2⟩
end Mine
open PySem PySem.W PyProof.Rows
namespace Mine
open_top hd for PySem.Challenge.rw_dm0214_02
end Mine
open PySem PySem.W PyProof.Rows
namespace Mine
theorem excK_of (P : Params) : ExcK (hd.heap_39 P) 39 := ⟨by kernel_rfl, by kernel_rfl, by kernel_rfl, by kernel_rfl, by kernel_rfl⟩
theorem fI_of (P : Params) : FnKd (hd.heap_39 P) 29 22 "NetrcParseError.__init__" (meth 0) [.none, .none] := ⟨⟨_, _, _, _, _, _, _, _, by with_unfolding_all rfl, by kernel_rfl⟩, _, _, _, _, by with_unfolding_all rfl⟩
theorem fS_of (P : Params) : FnK (hd.heap_39 P) 36 "NetrcParseError.__str__" (meth 1) := ⟨_, _, _, _, _, _, _, by with_unfolding_all rfl, by kernel_rfl⟩
theorem errK_of (P : Params) : ErrK (hd.heap_39 P) 39 29 22 36 where
  cls := excK_of P
  makes := by kernel_rfl
  gC := by kernel_rfl
  kC := by kernel_rfl
  init := by kernel_rfl
  tI := by kernel_rfl
  fI := fI_of P
  st := by kernel_rfl
  tS := by kernel_rfl
  fS := fS_of P
  a1 := by kernel_rfl
  a2 := by kernel_rfl
  a3 := by kernel_rfl
  ar := by kernel_rfl
  gE := by kernel_rfl
theorem fF_of (P : Params) : FnK (hd.heap_39 P) 49 "_law_figures" (stmt 3) := ⟨_, _, _, _, _, _, _, by with_unfolding_all rfl, by kernel_rfl⟩
theorem fD_of (P : Params) : FnK (hd.heap_39 P) 56 "_law_digits" (stmt 4) := ⟨_, _, _, _, _, _, _, by with_unfolding_all rfl, by kernel_rfl⟩
theorem fP_of (P : Params) : FnK (hd.heap_39 P) 63 "_law_spec" (stmt 5) := ⟨_, _, _, _, _, _, _, by with_unfolding_all rfl, by kernel_rfl⟩
theorem fV_of (P : Params) : FnK (hd.heap_39 P) 70 "_law_value" (stmt 6) := ⟨_, _, _, _, _, _, _, by with_unfolding_all rfl, by kernel_rfl⟩
theorem fW_of (P : Params) : FnKc (hd.heap_39 P) 75 "_law_words" (stmt 7) (.ref 74) := ⟨_, _, _, _, _, _, by with_unfolding_all rfl, by kernel_rfl⟩
theorem fT_of (P : Params) : FnKc (hd.heap_39 P) 80 "_law_told" (stmt 8) (.ref 79) := ⟨_, _, _, _, _, _, by with_unfolding_all rfl, by kernel_rfl⟩
theorem figK_of (P : Params) : FigK (hd.heap_39 P) 49 := ⟨by kernel_rfl, by kernel_rfl, fF_of P, by kernel_rfl, by kernel_rfl⟩
theorem digK_of (P : Params) : DigK (hd.heap_39 P) 56 := ⟨by kernel_rfl, by kernel_rfl, fD_of P⟩
theorem spcK_of (P : Params) : SpcK (hd.heap_39 P) 63 70 := ⟨by kernel_rfl, by kernel_rfl, fP_of P, by kernel_rfl, by kernel_rfl, fV_of P⟩
theorem wdsK_of (P : Params) : WdsK (hd.heap_39 P) 75 (.ref 74) := ⟨by kernel_rfl, by kernel_rfl, fW_of P⟩
theorem tldK_of (P : Params) : TldK (hd.heap_39 P) 80 (.ref 79) := ⟨by kernel_rfl, by kernel_rfl, fT_of P, by kernel_rfl, by kernel_rfl, by kernel_rfl, by kernel_rfl⟩
theorem lawK_of (P : Params) : LawK (hd.heap_39 P) := ⟨by kernel_rfl, by kernel_rfl, by kernel_rfl⟩
theorem room_caller (env : Env) : Room 12 (callerA.deeper env) := ⟨rfl, by show (302 : Nat) + 36 < 990; decide, by show (7 : Nat) + 360 < 9800; decide⟩
end Mine
theorem PySem.Challenge.cw_dm0214_02_holds : PySem.Challenge.rw_dm0214_02.Holds :=
  Mine.hd (by
  k_go0
  rename Frag.In _ _ => X
  rename Top _ _ _ _ _ _ => T
  rename Fr _ _ _ _ => F
  rename News _ _ _ _ => N
  rename IntsAre _ _ => hI
  rename (_ = #[]) => hg
  refine wpAny_mono (Mine.start (d := 12) (body := Mine.fBody (Mine.stmt 9)) (qual := "law") (scope := Mine.fScope (Mine.stmt 9)) X T F N (by assumption) (by assumption) (by assumption) (by assumption) (by assumption) (Nat.lt_succ_self _) (Nat.lt_succ_self _) (Nat.lt_succ_self _) (Nat.lt_succ_self _) (by rfl) (Mine.room_caller _) rfl (Mine.law (Mine.errK_of _) (Mine.figK_of _) (Mine.digK_of _) (Mine.spcK_of _) (Mine.wdsK_of _) (Mine.tldK_of _) (Mine.lawK_of _) ⟨by assumption, Mine.ints_rel hI, fun v hv => ?_⟩)) ?_ fun _ _ z => z.elim
  · obtain ⟨n, _, rfl⟩ := List.mem_map.mp hv
    exact ⟨n, rfl⟩
  · rintro f s' ⟨rfl, ⟨m', F'⟩, h1, h2⟩
    refine goodW_bool F' (h1.trans hg) (fun _ => rfl) ?_ h2
    wrow_post)
