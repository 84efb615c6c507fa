import PyProof.Rows.All
import Wide.All
import OpenK.AllK
import Wide.FinOn
import PySem.Challenge.RW_dm0214_08
set_option Elab.async false
set_option maxRecDepth 100000
set_option maxHeartbeats 8000000
set_option linter.unusedVariables false
set_option linter.unusedSimpArgs false
namespace Mine
open PySem PySem.W PyProof.Rows

inductive V where
  | none
  | bool (b : Bool)
  | int (i : Int)
  | str (l : List Nat)
  | bi (id : String)
  | ty (n : String)
  | top (a : Addr)
  | ref (i : Nat)
  | tup (vs : List V)
  | meth (f self : V)

noncomputable abbrev tupObj (xs : Array Value) (n : Nat) : Obj := { cls := .type "tuple", data := .seq xs n }

mutual
inductive VR (ρ : List Addr) (h : Heap) : V → Value → Prop
  | none : VR ρ h .none .none
  | bool (b : Bool) : VR ρ h (.bool b) (.bool b)
  | int (i : Int) (t : Tok) : VR ρ h (.int i) (.int i t)
  | str {l : List Nat} {x : Str} (t : Tok) : x.cps.toList = l → VR ρ h (.str l) (.str x t)
  | bi (id : String) : VR ρ h (.bi id) (.builtin id)
  | ty (n : String) : VR ρ h (.ty n) (.type n)
  | top (a : Addr) : VR ρ h (.top a) (.ref a)
  | ref {i : Nat} {a : Addr} : ρ[i]? = some a → VR ρ h (.ref i) (.ref a)
  | tup {a : Addr} {vs : List V} {xs : List Value} {n : Nat} : h.get? a = some (tupObj xs.toArray n) → VRs ρ h vs xs → VR ρ h (.tup vs) (.ref a)
  | meth {a : Addr} {f self : V} {f' self' : Value} : h.get? a = some (methodObj f' self') → VR ρ h f f' → VR ρ h self self' → VR ρ h (.meth f self) (.ref a)
inductive VRs (ρ : List Addr) (h : Heap) : List V → List Value → Prop
  | nil : VRs ρ h [] []
  | cons {v : V} {x : Value} {vs : List V} {xs : List Value} : VR ρ h v x → VRs ρ h vs xs → VRs ρ h (v :: vs) (x :: xs)
end

theorem VR.refC {ρ : List Addr} {h : Heap} {i : Nat} {motive : ∀ x : Value, VR ρ h (.ref i) x → Prop} (ref : ∀ {a : Addr} (ha : ρ[i]? = some a), motive (.ref a) (.ref ha)) {x : Value} (v : VR ρ h (.ref i) x) : motive x v := by cases v; exact ref ‹_›
theorem VR.intC {ρ : List Addr} {h : Heap} {i : Int} {motive : ∀ x : Value, VR ρ h (.int i) x → Prop} (int : ∀ t : Tok, motive (.int i t) (.int i t)) {x : Value} (v : VR ρ h (.int i) x) : motive x v := by cases v; exact int _
theorem VR.strC {ρ : List Addr} {h : Heap} {l : List Nat} {motive : ∀ x : Value, VR ρ h (.str l) x → Prop} (str : ∀ {y : Str} (t : Tok) (e : y.cps.toList = l), motive (.str y t) (.str t e)) {x : Value} (v : VR ρ h (.str l) x) : motive x v := by cases v; exact str _ ‹_›
theorem VR.boolC {ρ : List Addr} {h : Heap} {b : Bool} {motive : ∀ x : Value, VR ρ h (.bool b) x → Prop} (bool : motive (.bool b) (.bool b)) {x : Value} (v : VR ρ h (.bool b) x) : motive x v := by cases v; exact bool
theorem VR.noneC {ρ : List Addr} {h : Heap} {motive : ∀ x : Value, VR ρ h .none x → Prop} (none : motive .none .none) {x : Value} (v : VR ρ h .none x) : motive x v := by cases v; exact none
theorem VR.topC {ρ : List Addr} {h : Heap} {a : Addr} {motive : ∀ x : Value, VR ρ h (.top a) x → Prop} (top : motive (.ref a) (.top a)) {x : Value} (v : VR ρ h (.top a) x) : motive x v := by cases v; exact top
theorem VR.tupC {ρ : List Addr} {h : Heap} {vs : List V} {motive : ∀ x : Value, VR ρ h (.tup vs) x → Prop} (tup : ∀ {a : Addr} {xs : List Value} {n : Nat} (e : h.get? a = some (tupObj xs.toArray n)) (r : VRs ρ h vs xs), motive (.ref a) (.tup e r)) {x : Value} (v : VR ρ h (.tup vs) x) : motive x v := by cases v; exact tup ‹_› ‹_›
theorem VR.methC {ρ : List Addr} {h : Heap} {f self : V} {motive : ∀ x : Value, VR ρ h (.meth f self) x → Prop} (meth : ∀ {a : Addr} {f' self' : Value} (e : h.get? a = some (methodObj f' self')) (r1 : VR ρ h f f') (r2 : VR ρ h self self'), motive (.ref a) (.meth e r1 r2)) {x : Value} (v : VR ρ h (.meth f self) x) : motive x v := by cases v with | meth e r1 r2 => exact meth e r1 r2
theorem VRs.consC {ρ : List Addr} {h : Heap} {v : V} {vs : List V} {motive : ∀ xs : List Value, VRs ρ h (v :: vs) xs → Prop} (cons : ∀ {x : Value} {xs : List Value} (v1 : VR ρ h v x) (v2 : VRs ρ h vs xs), motive (x :: xs) (.cons v1 v2)) {xs : List Value} (w : VRs ρ h (v :: vs) xs) : motive xs w := by cases w; exact cons ‹_› ‹_›
theorem VRs.nilC {ρ : List Addr} {h : Heap} {motive : ∀ xs : List Value, VRs ρ h [] xs → Prop} (nil : motive [] .nil) {xs : List Value} (w : VRs ρ h [] xs) : motive xs w := by cases w; exact nil

noncomputable def Fix (o : Obj) : Prop := (∃ xs n, o = tupObj xs n) ∨ (∃ f self, o = methodObj f self) ∨ (o.cls = .type "code" ∧ ∃ vs, o.data = .fields vs)
noncomputable def ImmKeep (h h' : Heap) : Prop := ∀ a o, Fix o → h.get? a = some o → h'.get? a = some o
theorem ImmKeep.refl (h : Heap) : ImmKeep h h := fun _ _ _ e => e
theorem pre_get {ρ ρ' : List Addr} (p : ρ <+: ρ') {i : Nat} {a : Addr} (e : ρ[i]? = some a) : ρ'[i]? = some a := by
  obtain ⟨t, rfl⟩ := p
  rw [List.getElem?_append_left (List.getElem?_eq_some_iff.mp e).1]; exact e

mutual
theorem VR.mono {ρ ρ' : List Addr} {h h' : Heap} (p : ρ <+: ρ') (k : ImmKeep h h') : ∀ {v : V} {x : Value}, VR ρ h v x → VR ρ' h' v x
  | _, _, .none => .none
  | _, _, .bool b => .bool b
  | _, _, .int i t => .int i t
  | _, _, .str t e => .str t e
  | _, _, .bi i => .bi i
  | _, _, .ty i => .ty i
  | _, _, .top i => .top i
  | _, _, .ref e => .ref (pre_get p e)
  | _, _, .tup e r => .tup (k _ _ (.inl ⟨_, _, rfl⟩) e) (VRs.mono p k r)
  | _, _, .meth e r1 r2 => .meth (k _ _ (.inr (.inl ⟨_, _, rfl⟩)) e) (VR.mono p k r1) (VR.mono p k r2)
theorem VRs.mono {ρ ρ' : List Addr} {h h' : Heap} (p : ρ <+: ρ') (k : ImmKeep h h') : ∀ {v : List V} {x : List Value}, VRs ρ h v x → VRs ρ' h' v x
  | _, _, .nil => .nil
  | _, _, .cons r1 r2 => .cons (VR.mono p k r1) (VRs.mono p k r2)
end

theorem VRs.length {ρ : List Addr} {h : Heap} : ∀ {v : List V} {x : List Value}, VRs ρ h v x → v.length = x.length
  | _, _, .nil => rfl
  | _, _, .cons _ r => congrArg (· + 1) r.length
theorem VRs.append {ρ : List Addr} {h : Heap} : ∀ {v : List V} {x : List Value} {v' : List V} {x' : List Value}, VRs ρ h v x → VRs ρ h v' x' → VRs ρ h (v ++ v') (x ++ x')
  | _, _, _, _, .nil, r => r
  | _, _, _, _, .cons a b, r => .cons a (b.append r)
theorem VRs.get {ρ : List Addr} {h : Heap} : ∀ {v : List V} {x : List Value}, VRs ρ h v x → ∀ {i : Nat} {u : V}, v[i]? = some u → ∃ y, x[i]? = some y ∧ VR ρ h u y
  | _, _, .cons a _, 0, _, e => by cases e; exact ⟨_, rfl, a⟩
  | _, _, .cons _ b, i + 1, u, e => by simpa using VRs.get b (i := i) (by simpa using e)
theorem VRs.set {ρ : List Addr} {h : Heap} : ∀ {v : List V} {x : List Value}, VRs ρ h v x → ∀ {i : Nat} {u : V} {y : Value}, VR ρ h u y → VRs ρ h (v.set i u) (x.set i y)
  | _, _, .nil, _, _, _, _ => .nil
  | _, _, .cons _ b, 0, _, _, r => .cons r b
  | _, _, .cons a b, _ + 1, _, _, r => .cons a (b.set r)
theorem VRs.take {ρ : List Addr} {h : Heap} : ∀ {v : List V} {x : List Value}, VRs ρ h v x → ∀ {i : Nat}, VRs ρ h (v.take i) (x.take i)
  | _, _, .nil, i => by simp; exact .nil
  | _, _, .cons _ _, 0 => .nil
  | _, _, .cons a b, _ + 1 => .cons a b.take
theorem VRs.drop {ρ : List Addr} {h : Heap} : ∀ {v : List V} {x : List Value}, VRs ρ h v x → ∀ {i : Nat}, VRs ρ h (v.drop i) (x.drop i)
  | _, _, .nil, i => by simp; exact .nil
  | _, _, .cons a b, 0 => .cons a b
  | _, _, .cons _ b, _ + 1 => b.drop

structure FnLit where
  name : Str
  qual : Str
  params : Arguments
  body : List Stmt
  scope : Scope

inductive O where
  | list (vs : List V)
  | ns (kvs : List (Str × V))
  | inst (C : Addr) (d : Nat)
  | cell (v : Option V)
  | fn (f : FnLit) (cl : List (Str × Nat))
  | citer (st : Option (V × V))
  | tab (P : Addr) (i : Nat) (c : List (Pos × Str))
  | rng (a b st : Int)
  | di (i : Nat) (prog : Program) (w : World) (kvs : List (Int × V))
  | ds (i : Nat) (prog : Program) (w : World) (kvs : List (Str × V))
  | view (d : Nat)

noncomputable def NsR (ρ : List Addr) (h : Heap) : List (Str × V) → List DictEntry → Prop
  | [], [] => True
  | (n, v) :: r, e :: es => (∃ t, e.key = .str n t) ∧ VR ρ h v e.val ∧ NsR ρ h r es
  | _, _ => False
noncomputable def ClR (ρ : List Addr) : List (Str × Nat) → List (Str × Addr) → Prop
  | [], [] => True
  | (n, i) :: r, (m, a) :: es => n = m ∧ ρ[i]? = some a ∧ ClR ρ r es
  | _, _ => False
theorem NsR.mono {ρ ρ' : List Addr} {h h' : Heap} (p : ρ <+: ρ') (k : ImmKeep h h') : ∀ {v : List (Str × V)} {x : List DictEntry}, NsR ρ h v x → NsR ρ' h' v x
  | [], [], _ => trivial
  | (_, _) :: _, _ :: _, r => ⟨r.1, r.2.1.mono p k, NsR.mono p k r.2.2⟩
  | (_, _) :: _, [], r => r.elim
  | [], _ :: _, r => r.elim
theorem ClR.mono {ρ ρ' : List Addr} (p : ρ <+: ρ') : ∀ {v : List (Str × Nat)} {x : List (Str × Addr)}, ClR ρ v x → ClR ρ' v x
  | [], [], _ => trivial
  | (_, _) :: _, (_, _) :: _, r => ⟨r.1, pre_get p r.2.1, ClR.mono p r.2.2⟩
  | (_, _) :: _, [], r => r.elim
  | [], _ :: _, r => r.elim
noncomputable def PR {K : Type} (ρ : List Addr) (h : Heap) : List (K × V) → List (K × Value) → Prop
  | [], [] => True
  | (k, v) :: r, (k', x) :: xs => k = k' ∧ VR ρ h v x ∧ PR ρ h r xs
  | _, _ => False
theorem PR.mono {K : Type} {ρ ρ' : List Addr} {h h' : Heap} (p : ρ <+: ρ') (k : ImmKeep h h') : ∀ {v : List (K × V)} {x : List (K × Value)}, PR ρ h v x → PR ρ' h' v x
  | [], [], _ => trivial
  | (_, _) :: _, (_, _) :: _, r => ⟨r.1, r.2.1.mono p k, PR.mono p k r.2.2⟩
  | (_, _) :: _, [], r => r.elim
  | [], _ :: _, r => r.elim
noncomputable abbrev viewObj (a : Addr) : Obj := { cls := .type "dict_items", data := .fields #[.ref a] }
theorem ClR.look {ρ : List Addr} : ∀ {v : List (Str × Nat)} {x : List (Str × Addr)}, ClR ρ v x → ∀ {n : Str} {i : Nat}, v.lookup n = some i → ∃ a, x.lookup n = some a ∧ ρ[i]? = some a
  | [], [], _, _, _, e => by cases e
  | (k, j) :: v, (k', a) :: x, r, n, i, e => by
    obtain ⟨rfl, h1, h2⟩ := r
    rw [List.lookup_cons] at e ⊢
    cases hb : n == k with
    | true => rw [hb] at e; cases e; exact ⟨a, rfl, h1⟩
    | false => rw [hb] at e; exact h2.look e
  | (_, _) :: _, [], r, _, _, _ => r.elim
  | [], _ :: _, r, _, _, _ => r.elim

noncomputable abbrev listObj (xs : Array Value) (n : Nat) : Obj := { cls := .type "list", data := .seq xs n }
noncomputable abbrev rngObj (a b st : Int) (t u v : Tok) : Obj := { cls := .type "range", data := .fields #[.int a t, .int b u, .int st v] }
noncomputable abbrev citObj (vs : Array Value) : Obj := { cls := .type "callable_iterator", data := .fields vs }

noncomputable def CodeR (h : Heap) (c : Addr) (q : Str) : Prop := ∃ oc vs t, h.get? c = some oc ∧ oc.cls = .type "code" ∧ oc.data = .fields vs ∧ vs[1]? = some (.str q t)
theorem CodeR.mono {h h' : Heap} {c : Addr} {q : Str} (k : ImmKeep h h') : CodeR h c q → CodeR h' c q
  | ⟨oc, vs, t, e, h1, h2, h3⟩ => ⟨oc, vs, t, k _ _ (.inr (.inr ⟨h1, vs, h2⟩)) e, h1, h2, h3⟩
noncomputable def TabR (h : Heap) : List (Pos × Str) → List Value → Prop
  | [], l => l = []
  | (p, q) :: r, l => ∃ c rest, l = rawInt p.line :: rawInt p.col :: .ref c :: rest ∧ CodeR h c q ∧ TabR h r rest
theorem TabR.mono {h h' : Heap} (k : ImmKeep h h') : ∀ {p : List (Pos × Str)} {l : List Value}, TabR h p l → TabR h' p l
  | [], _, e => e
  | (_, _) :: _, _, ⟨c, rest, e, a, b⟩ => ⟨c, rest, e, a.mono k, b.mono k⟩
theorem CodeR.rec_ {h : Heap} {c : Addr} {q : Str} : CodeR h c q → h.CodeRec (.ref c) q
  | ⟨oc, vs, t, e, _, h2, h3⟩ => ⟨c, oc, vs, t, rfl, e, h2, h3⟩

noncomputable def OR (ρ : List Addr) (h : Heap) : O → Obj → Prop
  | .list vs, o => ∃ xs n, o = listObj (List.toArray xs) n ∧ VRs ρ h vs xs
  | .ns kvs, o => ∃ es n, o = dictOf es n ∧ NsR ρ h kvs es
  | .inst C d, o => ∃ dx, ρ[d]? = some dx ∧ o = instObj C dx
  | .cell v, o => ∃ x, o.data = .cell x ∧ (match v, x with | some v, some x => VR ρ h v x | none, none => True | _, _ => False)
  | .fn f cl, o => ∃ clos doc pm c ctv, o = { cls := .type "function", data := .func (fnX f.name f.qual f.params f.body f.scope clos .none .none doc pm none (.ref c) ctv) } ∧ ClR ρ cl clos ∧
      CodeR h c f.qual
  | .citer st, o => ∃ x y b, o = citObj #[x, y, .bool b] ∧ (match st with | some (u, v) => b = false ∧ VR ρ h u x ∧ VR ρ h v y | none => b = true)
  | .tab P i p, o => ∃ ps, ρ[i]? = some P ∧ o = tabObj ps ∧ TriplesOk ps.toList ∧ TabR h p ps.toList
  | .rng a b st, o => ∃ t u v, o = rngObj a b st t u v
  | .di i prog w kvs, o => ∃ a xs, ρ[i]? = some a ∧ (a == sysModules) = false ∧ o.IsDictOf (intKind prog w) xs ∧ PR ρ h kvs xs
  | .ds i prog w kvs, o => ∃ a xs, ρ[i]? = some a ∧ (a == sysModules) = false ∧ o.IsDictOf (PySem.strKind prog w) xs ∧ PR ρ h kvs xs
  | .view d, o => ∃ a, ρ[d]? = some a ∧ o = viewObj a

theorem OR.mono {ρ ρ' : List Addr} {h h' : Heap} (p : ρ <+: ρ') (k : ImmKeep h h') {o : O} {r : Obj} (x : OR ρ h o r) : OR ρ' h' o r := by
  cases o with
  | list vs => obtain ⟨xs, n, e, y⟩ := x; exact ⟨xs, n, e, y.mono p k⟩
  | ns kvs => obtain ⟨es, n, e, y⟩ := x; exact ⟨es, n, e, y.mono p k⟩
  | inst C d => obtain ⟨dx, e, y⟩ := x; exact ⟨dx, pre_get p e, y⟩
  | cell v =>
    obtain ⟨x, e, y⟩ := x
    refine ⟨x, e, ?_⟩
    cases v <;> cases x <;> first | exact y | exact y.mono p k
  | fn f cl => obtain ⟨clos, doc, pm, c, ctv, e, y, z⟩ := x; exact ⟨clos, doc, pm, c, ctv, e, y.mono p, z.mono k⟩
  | citer st =>
    obtain ⟨x, y, b, e, z⟩ := x
    refine ⟨x, y, b, e, ?_⟩
    cases st with
    | none => exact z
    | some uv => exact ⟨z.1, z.2.1.mono p k, z.2.2.mono p k⟩
  | tab P i q =>
    obtain ⟨ps, e0, e, t, z⟩ := x
    exact ⟨ps, pre_get p e0, e, t, z.mono k⟩
  | rng a b st => exact x
  | di i prog w kvs => obtain ⟨a, xs, e1, e2, e3, y⟩ := x; exact ⟨a, xs, pre_get p e1, e2, e3, y.mono p k⟩
  | ds i prog w kvs => obtain ⟨a, xs, e1, e2, e3, y⟩ := x; exact ⟨a, xs, pre_get p e1, e2, e3, y.mono p k⟩
  | view d => obtain ⟨a, e1, e2⟩ := x; exact ⟨a, pre_get p e1, e2⟩
theorem OR.notFix {ρ : List Addr} {h : Heap} {o : O} {r : Obj} (x : OR ρ h o r) : ¬ Fix r := by
  intro f
  cases o <;> simp only [OR] at x
  case list => obtain ⟨xs, n, rfl, _⟩ := x; rcases f with ⟨_, _, e⟩ | ⟨_, _, e⟩ | ⟨e, _⟩ <;> simp [listObj, tupObj, methodObj] at e
  case ns => obtain ⟨xs, n, rfl, _⟩ := x; rcases f with ⟨_, _, e⟩ | ⟨_, _, e⟩ | ⟨e, _⟩ <;> simp [dictOf, tupObj, methodObj] at e
  case inst => obtain ⟨dx, _, rfl⟩ := x; rcases f with ⟨_, _, e⟩ | ⟨_, _, e⟩ | ⟨e, _⟩ <;> simp [instObj, tupObj, methodObj] at e
  case cell =>
    obtain ⟨y, e, _⟩ := x
    rcases f with ⟨_, _, rfl⟩ | ⟨_, _, rfl⟩ | ⟨_, vs, e'⟩
    · cases e
    · cases e
    · rw [e'] at e; cases e
  case fn => obtain ⟨_, _, _, _, _, rfl, _⟩ := x; rcases f with ⟨_, _, e⟩ | ⟨_, _, e⟩ | ⟨e, _⟩ <;> simp [tupObj, methodObj] at e
  case citer => obtain ⟨_, _, _, rfl, _⟩ := x; rcases f with ⟨_, _, e⟩ | ⟨_, _, e⟩ | ⟨e, _⟩ <;> simp [tupObj, methodObj, citObj] at e
  case rng => obtain ⟨_, _, _, rfl⟩ := x; rcases f with ⟨_, _, e⟩ | ⟨_, _, e⟩ | ⟨e, _⟩ <;> simp [tupObj, methodObj, rngObj] at e
  case di => obtain ⟨_, _, _, _, ⟨_, _, hd, _⟩, _⟩ := x; rcases f with ⟨_, _, e⟩ | ⟨_, _, e⟩ | ⟨e, _⟩ <;> (have q := hd.1; rw [e] at q; simp [tupObj, methodObj] at q)
  case ds => obtain ⟨_, _, _, _, ⟨_, _, hd, _⟩, _⟩ := x; rcases f with ⟨_, _, e⟩ | ⟨_, _, e⟩ | ⟨e, _⟩ <;> (have q := hd.1; rw [e] at q; simp [tupObj, methodObj] at q)
  case view => obtain ⟨_, _, rfl⟩ := x; rcases f with ⟨_, _, e⟩ | ⟨_, _, e⟩ | ⟨e, _⟩ <;> simp [tupObj, methodObj, viewObj] at e
  case tab => obtain ⟨_, _, rfl, _⟩ := x; rcases f with ⟨_, _, e⟩ | ⟨_, _, e⟩ | ⟨e, _⟩ <;> simp [tupObj, methodObj, tabObj] at e

structure Cx where
  prog : Program
  w : World
  K : Frag
  H₀ : Heap
  p : Program
  loose : List Str
  mg : Str → Option Value
  mb : Str → Option Value
  g₀ : Array GenState
  os₀ : OsState
noncomputable abbrev Cx.M (c : Cx) : Model := model c.prog c.w
structure Cx.Ok (c : Cx) : Prop where
  k : c.K.In c.H₀
  t : TopRead c.p c.loose c.mg c.mb c.H₀
  bm : ∃ bm ob, c.mg "__builtins__" = some (.ref bm) ∧ bm ≠ builtinsNs ∧ c.H₀.get? bm = some ob ∧ ob.cls = .type "module" ∧ ob.dict = some builtinsNs ∧ ob.data = .plain

structure St where
  loc : List (Str × V)
  hp : List O

structure Fx where
  env : Env
  cl : List (Str × Nat)
  ρ₀ : List Addr

noncomputable def Keep (S : List Addr) (h h' : Heap) : Prop := ∀ b o, b ∉ S → h.get? b = some o → h'.get? b = some o

structure HRel (c : Cx) (ρ : List Addr) (hp : List O) (h : Heap) : Prop where
  keep : ∀ b o, c.H₀.get? b = some o → h.get? b = some o
  len : ρ.length = hp.length
  nodup : ρ.Nodup
  fresh : ∀ a ∈ ρ, c.H₀.get? a = none
  obj : ∀ (i : Nat) (a : Addr) (o : O), ρ[i]? = some a → hp[i]? = some o → ∃ r, h.get? a = some r ∧ OR ρ h o r

structure Rel (c : Cx) (fx : Fx) (ρ : List Addr) (σ : St) (h : Heap) : Prop extends HRel c ρ σ.hp h where
  ok : c.Ok
  loc : ∃ m, h.Ns fx.env.locals m ∧ ∀ x v, σ.loc.lookup x = some v → ∃ u, m x = some u ∧ VR ρ h v u
  lfresh : c.H₀.get? fx.env.locals = none
  lapart : fx.env.locals ∉ ρ
  pre : fx.ρ₀ <+: ρ
  glob : fx.env.globals = mainGlobals
  bltn : fx.env.builtins = builtinsNs
  kind : fx.env.scope.kind = .function
  cells : ClR fx.ρ₀ fx.cl fx.env.cells

noncomputable def RelS (c : Cx) (fx : Fx) (ρ : List Addr) (σ : St) (s : Shared) : Prop := Rel c fx ρ σ s.heap ∧ s.gens = c.g₀ ∧ s.os = c.os₀
noncomputable def HRelS (c : Cx) (ρ : List Addr) (hp : List O) (s : Shared) : Prop := HRel c ρ hp s.heap ∧ s.gens = c.g₀ ∧ s.os = c.os₀

structure Ext (fx : Fx) (ρ : List Addr) (h : Heap) (ρ' : List Addr) (h' : Heap) : Prop where
  new : ∀ a ∈ ρ', a ∈ ρ ∨ h.get? a = none
  keep : Keep (fx.env.locals :: ρ) h h'

structure Room (d : Nat) (A : Around) : Prop where
  handled : A.handled = none
  depth : A.depth + 3 * d < 990
  units : A.units + 30 * d < 9800
theorem Room.le {d d' : Nat} {A : Around} (r : Room d A) (h : d' ≤ d) : Room d' A := ⟨r.1, by have := r.2; omega, by have := r.3; omega⟩
theorem Room.limit {d : Nat} {A : Around} (r : Room d A) : A.depth < recursionLimit := by have := r.2; unfold recursionLimit; omega
theorem Room.c {d : Nat} {A : Around} (r : Room d A) : A.units < cLine := by have := r.3; unfold cLine; omega
theorem Room.in1 {d : Nat} {A : Around} (r : Room (d + 1) A) : Room d A.in1 := ⟨r.1, by have := r.2; simp only [Around.in1_depth]; omega, by have := r.3; simp only [Around.in1_units]; omega⟩
theorem Room.deeper {d : Nat} {A : Around} (r : Room (d + 1) A) (env : Env) : Room d (A.deeper env) := ⟨r.1, by have := r.2; show A.depth + 1 + _ < _; omega, by have := r.3; simp only [Around.deeper_units]; omega⟩

noncomputable abbrev noE : Value → Shared → Prop := fun _ _ => False

inductive Post (c : Cx) (fx : Fx) (ρ : List Addr) (s : Shared) (Q : V → St → Prop) (x : Value) (s' : Shared) : Prop
  | mk (ρ' : List Addr) (v : V) (σ' : St) (p : ρ <+: ρ') (e : Ext fx ρ s.heap ρ' s'.heap) (r : RelS c fx ρ' σ' s') (hv : VR ρ' s'.heap v x) (q : Q v σ') : Post c fx ρ s Q x s'
inductive Posts (c : Cx) (fx : Fx) (ρ : List Addr) (s : Shared) (Q : List V → St → Prop) (x : List Value) (s' : Shared) : Prop
  | mk (ρ' : List Addr) (v : List V) (σ' : St) (p : ρ <+: ρ') (e : Ext fx ρ s.heap ρ' s'.heap) (r : RelS c fx ρ' σ' s') (hv : VRs ρ' s'.heap v x) (q : Q v σ') : Posts c fx ρ s Q x s'
inductive PostU {α : Type} (c : Cx) (fx : Fx) (ρ : List Addr) (s : Shared) (Q : α → St → Prop) (x : α) (s' : Shared) : Prop
  | mk (ρ' : List Addr) (σ' : St) (p : ρ <+: ρ') (e : Ext fx ρ s.heap ρ' s'.heap) (r : RelS c fx ρ' σ' s') (q : Q x σ') : PostU c fx ρ s Q x s'

inductive Fl where
  | next | brk | cont
  | ret (v : V)
inductive FR (ρ : List Addr) (h : Heap) : Fl → Flow → Prop
  | next : FR ρ h .next .next
  | brk : FR ρ h .brk .brk
  | cont : FR ρ h .cont .cont
  | ret {v : V} {x : Value} : VR ρ h v x → FR ρ h (.ret v) (.ret x)
inductive PostX (c : Cx) (fx : Fx) (ρ : List Addr) (s : Shared) (Q : Fl → St → Prop) (x : Flow) (s' : Shared) : Prop
  | mk (ρ' : List Addr) (f : Fl) (σ' : St) (e : Ext fx ρ s.heap ρ' s'.heap) (r : RelS c fx ρ' σ' s') (hv : FR ρ' s'.heap f x) (q : Q f σ') : PostX c fx ρ s Q x s'

noncomputable def EV (c : Cx) (d : Nat) (fx : Fx) (t : Sem Value) (σ : St) (Q : V → St → Prop) : Prop :=
  ∀ ρ s A, Room d A → RelS c fx ρ σ s → wpAny c.M A t (Post c fx ρ s Q) noE s
noncomputable def EVs (c : Cx) (d : Nat) (fx : Fx) (t : Sem (List Value)) (σ : St) (Q : List V → St → Prop) : Prop :=
  ∀ ρ s A, Room d A → RelS c fx ρ σ s → wpAny c.M A t (Posts c fx ρ s Q) noE s
noncomputable def UV {α : Type} (c : Cx) (d : Nat) (fx : Fx) (t : Sem α) (σ : St) (Q : α → St → Prop) : Prop :=
  ∀ ρ s A, Room d A → RelS c fx ρ σ s → wpAny c.M A t (PostU c fx ρ s Q) noE s
noncomputable def XV (c : Cx) (d : Nat) (fx : Fx) (t : Sem Flow) (σ : St) (Q : Fl → St → Prop) : Prop :=
  ∀ ρ s A, Room d A → RelS c fx ρ σ s → wpAny c.M A t (PostX c fx ρ s Q) noE s
noncomputable def OV1 (c : Cx) (d : Nat) (fx : Fx) (f : Value → Sem Value) (v : V) (σ : St) (Q : V → St → Prop) : Prop :=
  ∀ ρ s A x, Room d A → RelS c fx ρ σ s → VR ρ s.heap v x → wpAny c.M A (f x) (Post c fx ρ s Q) noE s
noncomputable def OV2 (c : Cx) (d : Nat) (fx : Fx) (f : Value → Value → Sem Value) (v u : V) (σ : St) (Q : V → St → Prop) : Prop :=
  ∀ ρ s A x y, Room d A → RelS c fx ρ σ s → VR ρ s.heap v x → VR ρ s.heap u y → wpAny c.M A (f x y) (Post c fx ρ s Q) noE s
noncomputable def OVs (c : Cx) (d : Nat) (fx : Fx) (f : List Value → Sem Value) (vs : List V) (σ : St) (Q : V → St → Prop) : Prop :=
  ∀ ρ s A xs, Room d A → RelS c fx ρ σ s → VRs ρ s.heap vs xs → wpAny c.M A (f xs) (Post c fx ρ s Q) noE s
noncomputable def OU1 {α : Type} (c : Cx) (d : Nat) (fx : Fx) (f : Value → Sem α) (v : V) (σ : St) (Q : α → St → Prop) : Prop :=
  ∀ ρ s A x, Room d A → RelS c fx ρ σ s → VR ρ s.heap v x → wpAny c.M A (f x) (PostU c fx ρ s Q) noE s
end Mine
namespace Mine
open PySem PySem.W PyProof.Rows

section
variable {c : Cx} {d : Nat} {fx : Fx} {ρ ρ' ρ'' : List Addr} {σ σ' : St} {h h' h'' : Heap} {s s' s₁ : Shared} {A : Around}

theorem HRel.at {hp : List O} (r : HRel c ρ hp h) {i : Nat} {o : O} (e : hp[i]? = some o) : ∃ a x, ρ[i]? = some a ∧ h.get? a = some x ∧ OR ρ h o x := by
  obtain ⟨hi, _⟩ := List.getElem?_eq_some_iff.mp e
  have hi' : i < ρ.length := by rw [r.len]; exact hi
  obtain ⟨x, h1, h2⟩ := r.obj i ρ[i] o (List.getElem?_eq_getElem hi') e
  exact ⟨ρ[i], x, List.getElem?_eq_getElem hi', h1, h2⟩
theorem HRel.mem {hp : List O} (r : HRel c ρ hp h) {a : Addr} (e : a ∈ ρ) : ∃ (i : Nat) (o : O) (x : Obj), ρ[i]? = some a ∧ hp[i]? = some o ∧ h.get? a = some x ∧ OR ρ h o x := by
  obtain ⟨i, hi, rfl⟩ := List.getElem_of_mem e
  have hi' : i < hp.length := by rw [← r.len]; exact hi
  obtain ⟨x, h1, h2⟩ := r.obj i ρ[i] hp[i] (List.getElem?_eq_getElem hi) (List.getElem?_eq_getElem hi')
  exact ⟨i, hp[i], x, List.getElem?_eq_getElem hi, List.getElem?_eq_getElem hi', h1, h2⟩
theorem Rel.locAt (r : Rel c fx ρ σ h) : ∃ o es ep, h.get? fx.env.locals = some o ∧ o.data = .dict es ep := by
  obtain ⟨m, ⟨o, es, ep, h1, h2, _⟩, _⟩ := r.loc
  exact ⟨o, es, ep, h1, h2⟩
theorem HRel.notFix {hp : List O} (r : HRel c ρ hp h) {a : Addr} {o : Obj} (f : Fix o) (e : h.get? a = some o) : a ∉ ρ := by
  intro hm
  obtain ⟨i, o', x, _, _, h1, h2⟩ := r.mem hm
  rw [e] at h1; cases h1
  exact h2.notFix f
theorem Fix.notDict {o : Obj} (f : Fix o) {es ep} (e : o.data = .dict es ep) : False := by
  rcases f with ⟨_, _, rfl⟩ | ⟨_, _, rfl⟩ | ⟨_, vs, h1⟩
  · cases e
  · cases e
  · rw [h1] at e; cases e
theorem Rel.immKeep (r : Rel c fx ρ σ h) (k : Keep (fx.env.locals :: ρ) h h') : ImmKeep h h' := fun a o f e => by
  refine k a o ?_ e
  intro hm
  rcases List.mem_cons.mp hm with rfl | hm
  · obtain ⟨o', es, ep, h1, h2⟩ := r.locAt
    rw [e] at h1; cases h1
    exact f.notDict h2
  · exact r.toHRel.notFix f e hm
theorem HRel.immKeep {hp : List O} (r : HRel c ρ hp h) (k : Keep ρ h h') : ImmKeep h h' := fun a o f e => k a o (r.notFix f e) e

theorem Keep.refl (S : List Addr) (h : Heap) : Keep S h h := fun _ _ _ e => e
theorem Keep.push (S : List Addr) (h : Heap) (o : Obj) : Keep S h (h.push o) := fun _ _ _ e => Heap.get?_push_of_some _ e
theorem Keep.trans {S : List Addr} (x : Keep S h h') (y : Keep S h' h'') : Keep S h h'' := fun b o n e => y b o n (x b o n e)
theorem Keep.sub {S S' : List Addr} (x : Keep S h h') (hs : ∀ a ∈ S, a ∈ S') : Keep S' h h' := fun b o n e => x b o (fun m => n (hs b m)) e
theorem Keep.of_sameBut {a : Addr} (x : Heap.SameBut a h h') : Keep [a] h h' := fun b _ n e => (x.2 b (fun q => n (by rw [q]; exact .head _))).trans e
theorem Keep.of_extBut {a : Addr} (x : Heap.ExtBut a h h') : Keep [a] h h' := fun b o n e => x b o (fun q => n (by rw [q]; exact .head _)) e

theorem Ext.refl (fx : Fx) (ρ : List Addr) (h : Heap) : Ext fx ρ h ρ h := ⟨fun _ m => .inl m, .refl _ _⟩
theorem Ext.trans (x : Ext fx ρ h ρ' h') (y : Ext fx ρ' h' ρ'' h'') (hL : ∃ o, h'.get? fx.env.locals = some o) : Ext fx ρ h ρ'' h'' := by
  refine ⟨fun a m => ?_, fun b o n e => ?_⟩
  · rcases y.new a m with m' | z
    · exact x.new a m'
    · by_cases ha : a ∈ ρ
      · exact .inl ha
      · right
        cases q : h.get? a with
        | none => rfl
        | some o =>
          by_cases hl : a = fx.env.locals
          · obtain ⟨o', e'⟩ := hL; rw [hl, e'] at z; cases z
          · have := x.keep a o (fun m' => by rcases List.mem_cons.mp m' with rfl | m'; exact hl rfl; exact ha m') q
            rw [this] at z; cases z
  · refine y.keep b o (fun m => ?_) (x.keep b o n e)
    rcases List.mem_cons.mp m with rfl | m
    · exact n (.head _)
    · rcases x.new b m with m' | z
      · exact n (.tail _ m')
      · rw [e] at z; cases z
theorem Rel.hasL (r : Rel c fx ρ σ h) : ∃ o, h.get? fx.env.locals = some o := let ⟨o, _, _, e, _⟩ := r.locAt; ⟨o, e⟩

theorem Post.sh {s₀ s₁ s₂ : Shared} {x : Value} (z : Post c fx ρ s₁ Q x s₂) (h : s₁.heap = s₀.heap) : Post c fx ρ s₀ Q x s₂ := by
  obtain ⟨ρ', v, σ', p, e, r, hv, q⟩ := z
  exact ⟨ρ', v, σ', p, h ▸ e, r, hv, q⟩
theorem Post.trans {Q : V → St → Prop} {x : Value} (p : ρ <+: ρ') (e : Ext fx ρ s.heap ρ' s₁.heap) (r : RelS c fx ρ' σ s₁) (h : Post c fx ρ' s₁ Q x s') : Post c fx ρ s Q x s' := by
  obtain ⟨ρ'', v, σ', p', e', r', hv, q⟩ := h
  exact ⟨ρ'', v, σ', p.trans p', e.trans e' r.1.hasL, r', hv, q⟩
theorem PostU.trans {α : Type} {Q : α → St → Prop} {x : α} (p : ρ <+: ρ') (e : Ext fx ρ s.heap ρ' s₁.heap) (r : RelS c fx ρ' σ s₁) (h : PostU c fx ρ' s₁ Q x s') : PostU c fx ρ s Q x s' := by
  obtain ⟨ρ'', σ', p', e', r', q⟩ := h
  exact ⟨ρ'', σ', p.trans p', e.trans e' r.1.hasL, r', q⟩
theorem PostX.trans {Q : Fl → St → Prop} {x : Flow} (e : Ext fx ρ s.heap ρ' s₁.heap) (r : RelS c fx ρ' σ s₁) (h : PostX c fx ρ' s₁ Q x s') : PostX c fx ρ s Q x s' := by
  obtain ⟨ρ'', f, σ', e', r', hv, q⟩ := h
  exact ⟨ρ'', f, σ', e.trans e' r.1.hasL, r', hv, q⟩

theorem EV.mono {t : Sem Value} {Q Q' : V → St → Prop} (h : EV c d fx t σ Q) (k : ∀ v σ', Q v σ' → Q' v σ') : EV c d fx t σ Q' := fun ρ s A R r =>
  wpAny_mono (h ρ s A R r) (fun _ _ ⟨ρ', v, σ', p, e, r, hv, q⟩ => ⟨ρ', v, σ', p, e, r, hv, k _ _ q⟩) fun _ _ x => x
theorem XV.mono {t : Sem Flow} {Q Q' : Fl → St → Prop} (h : XV c d fx t σ Q) (k : ∀ v σ', Q v σ' → Q' v σ') : XV c d fx t σ Q' := fun ρ s A R r =>
  wpAny_mono (h ρ s A R r) (fun _ _ ⟨ρ', v, σ', e, r, hv, q⟩ => ⟨ρ', v, σ', e, r, hv, k _ _ q⟩) fun _ _ x => x
theorem bindEE {f : Value → Sem Value} {t : Sem Value} {Q : V → St → Prop} (R : Room d A) (r : RelS c fx ρ σ s)
    (h : EV c d fx t σ (fun v σ₁ => OV1 c d fx f v σ₁ Q)) : wpAny c.M A t (fun x s₁ => wpAny c.M A (f x) (Post c fx ρ s Q) noE s₁) noE s := by
  refine wpAny_mono (h ρ s A R r) ?_ fun _ _ x => x
  rintro x s₁ ⟨ρ₁, v, σ₁, p₁, e₁, r₁, v₁, h₁⟩
  exact wpAny_mono (h₁ ρ₁ s₁ A x R r₁ v₁) (fun y s₂ z => z.trans p₁ e₁ r₁) fun _ _ x => x

theorem Post.same {Q : V → St → Prop} {v : V} {x : Value} (r : RelS c fx ρ σ s) (hs : s'.heap = s.heap) (hg : s'.gens = s.gens) (ho : s'.os = s.os) (hv : VR ρ s.heap v x) (q : Q v σ) : Post c fx ρ s Q x s' :=
  ⟨ρ, v, σ, List.prefix_refl _, by rw [hs]; exact .refl _ _ _, by unfold RelS at r ⊢; rw [hs, hg, ho]; exact r, by rw [hs]; exact hv, q⟩

theorem VR.push (o : Obj) {v : V} {x : Value} (r : VR ρ h v x) : VR ρ (h.push o) v x := r.mono (List.prefix_refl _) fun _ _ _ e => Heap.get?_push_of_some _ e
theorem HRel.ext {hp : List O} (r : HRel c ρ hp h) (k : ∀ b o, h.get? b = some o → h'.get? b = some o) : HRel c ρ hp h' :=
  ⟨fun b o e => k b o (r.keep b o e), r.len, r.nodup, r.fresh, fun i a o e1 e2 => let ⟨x, h1, h2⟩ := r.obj i a o e1 e2; ⟨x, k _ _ h1, h2.mono (List.prefix_refl _) fun _ _ _ e => k _ _ e⟩⟩
theorem Rel.ext (r : Rel c fx ρ σ h) (k : ∀ b o, h.get? b = some o → h'.get? b = some o) : Rel c fx ρ σ h' := by
  obtain ⟨m, hm, hv⟩ := r.loc
  exact { toHRel := r.toHRel.ext k, ok := r.ok, loc := ⟨m, hm.keeps k, fun x v e => let ⟨u, h1, h2⟩ := hv x v e; ⟨u, h1, h2.mono (List.prefix_refl _) fun _ _ _ e => k _ _ e⟩⟩,
          lfresh := r.lfresh, lapart := r.lapart, pre := r.pre, glob := r.glob, bltn := r.bltn, kind := r.kind, cells := r.cells }
theorem Rel.push (r : Rel c fx ρ σ h) (o : Obj) : Rel c fx ρ σ (h.push o) := r.ext fun _ _ e => Heap.get?_push_of_some _ e
theorem Ext.ext (k : ∀ b o, h.get? b = some o → h'.get? b = some o) : Ext fx ρ h ρ h' := ⟨fun _ m => .inl m, fun b o _ e => k b o e⟩
theorem Ext.push (o : Obj) : Ext fx ρ h ρ (h.push o) := .ext fun _ _ e => Heap.get?_push_of_some _ e

theorem get_none_of_lt {a : Addr} (ha : h.objs.size ≤ a) : h.get? a = none := by
  cases q : h.get? a with
  | none => rfl
  | some o => exact absurd (Heap.lt_size q) (Nat.not_lt.mpr ha)
theorem HRel.lt {hp : List O} (r : HRel c ρ hp h) {a : Addr} (m : a ∈ ρ) : a < h.objs.size := by
  obtain ⟨_, _, x, _, _, e, _⟩ := r.mem m
  exact Heap.lt_size e
theorem HRel.size₀ {hp : List O} (r : HRel c ρ hp h) {a : Addr} (ha : h.objs.size ≤ a) : c.H₀.get? a = none := by
  cases q : c.H₀.get? a with
  | none => rfl
  | some o => exact absurd (Heap.lt_size (r.keep _ _ q)) (Nat.not_lt.mpr ha)

theorem pre_snoc (ρ : List Addr) (a : Addr) : ρ <+: ρ ++ [a] := List.prefix_append ..
theorem HRel.alloc {hp : List O} {o : O} {x : Obj} (r : HRel c ρ hp h) (hf : x.isFreed = false) (ho : OR (ρ ++ [h.objs.size]) (h.push x) o x) : HRel c (ρ ++ [h.objs.size]) (hp ++ [o]) (h.push x) := by
  have hn : h.objs.size ∉ ρ := fun m => Nat.lt_irrefl _ (r.lt m)
  have k : ImmKeep h (h.push x) := fun _ _ _ e => Heap.get?_push_of_some _ e
  refine ⟨fun b o e => Heap.get?_push_of_some _ (r.keep b o e), by simp [r.len], ?_, fun a m => ?_, fun i a o' e1 e2 => ?_⟩
  · rw [List.nodup_append]
    refine ⟨r.nodup, by simp, fun a ha b hb e => ?_⟩
    rw [List.mem_singleton] at hb
    subst hb; subst e
    exact hn ha
  · rcases List.mem_append.mp m with m | m
    · exact r.fresh a m
    · rw [List.mem_singleton] at m; subst m; exact r.size₀ (Nat.le_refl _)
  · by_cases hi : i < ρ.length
    · rw [List.getElem?_append_left hi] at e1
      rw [List.getElem?_append_left (by rw [← r.len]; exact hi)] at e2
      obtain ⟨y, h1, h2⟩ := r.obj i a o' e1 e2
      exact ⟨y, Heap.get?_push_of_some _ h1, h2.mono (pre_snoc ..) k⟩
    · have hl : i = ρ.length := by
        have := (List.getElem?_eq_some_iff.mp e1).1
        simp at this; omega
      subst hl
      rw [List.getElem?_append_right (Nat.le_refl _)] at e1
      rw [List.getElem?_append_right (by rw [r.len]; exact Nat.le_refl _)] at e2
      rw [r.len] at e2
      simp at e1 e2
      subst e1 e2
      exact ⟨x, Heap.get?_push_size _ hf, ho⟩
theorem Rel.alloc {loc : List (Str × V)} {hp : List O} {o : O} {x : Obj} (r : Rel c fx ρ ⟨loc, hp⟩ h) (hf : x.isFreed = false) (ho : OR (ρ ++ [h.objs.size]) (h.push x) o x) :
    Rel c fx (ρ ++ [h.objs.size]) ⟨loc, hp ++ [o]⟩ (h.push x) := by
  obtain ⟨m, hm, hv⟩ := r.loc
  have k : ∀ b o, h.get? b = some o → (h.push x).get? b = some o := fun _ _ e => Heap.get?_push_of_some _ e
  exact { toHRel := r.toHRel.alloc hf ho, ok := r.ok, loc := ⟨m, hm.keeps k, fun x v e => let ⟨u, h1, h2⟩ := hv x v e; ⟨u, h1, h2.mono (pre_snoc ..) fun _ _ _ e => k _ _ e⟩⟩,
          lfresh := r.lfresh,
          lapart := fun m => by
            rcases List.mem_append.mp m with m | m
            · exact r.lapart m
            · rw [List.mem_singleton] at m
              obtain ⟨o, e⟩ := r.hasL
              have := Heap.lt_size e
              rw [m] at this
              exact Nat.lt_irrefl _ this
          pre := r.pre.trans (pre_snoc ..), glob := r.glob, bltn := r.bltn, kind := r.kind, cells := r.cells }
theorem Ext.alloc (x : Obj) : Ext fx ρ h (ρ ++ [h.objs.size]) (h.push x) :=
  ⟨fun a m => by
    rcases List.mem_append.mp m with m | m
    · exact .inl m
    · rw [List.mem_singleton] at m; subst m; exact .inr (get_none_of_lt (Nat.le_refl _)), .push _ _ _⟩

theorem mem_of_get? {ρ : List Addr} {i : Nat} {a : Addr} (e : ρ[i]? = some a) : a ∈ ρ := List.mem_of_getElem? e
theorem nodup_get {ρ : List Addr} (n : ρ.Nodup) {i j : Nat} {a : Addr} (e1 : ρ[i]? = some a) (e2 : ρ[j]? = some a) : i = j := by
  obtain ⟨h1, e1⟩ := List.getElem?_eq_some_iff.mp e1
  obtain ⟨h2, e2⟩ := List.getElem?_eq_some_iff.mp e2
  have q := List.pairwise_iff_getElem.mp n
  rcases Nat.lt_trichotomy i j with hl | hl | hl
  · exact absurd (e1.trans e2.symm) (q i j h1 h2 hl)
  · exact hl
  · exact absurd (e2.trans e1.symm) (q j i h2 h1 hl)
theorem HRel.upd {hp : List O} {i : Nat} {a : Addr} {o : O} {x : Obj} (r : HRel c ρ hp h) (ha : ρ[i]? = some a) (hs : Keep [a] h h') (hx : h'.get? a = some x) (ho : OR ρ h' o x) : HRel c ρ (hp.set i o) h' := by
  have fr := r.fresh a (mem_of_get? ha)
  have k : ImmKeep h h' := r.immKeep (hs.sub fun b m => by rw [List.mem_singleton] at m; subst m; exact mem_of_get? ha)
  refine ⟨fun b o e => hs b o (fun m => ?_) (r.keep b o e), by simp [r.len], r.nodup, r.fresh, fun j b o' e1 e2 => ?_⟩
  · rw [List.mem_singleton] at m; subst m; rw [e] at fr; cases fr
  · by_cases hj : j = i
    · subst hj
      rw [ha] at e1; cases e1
      have hlt : j < hp.length := by rw [← r.len]; exact (List.getElem?_eq_some_iff.mp ha).1
      rw [List.getElem?_set_self hlt] at e2; cases e2
      exact ⟨x, hx, ho⟩
    · rw [List.getElem?_set_ne (Ne.symm hj)] at e2
      obtain ⟨y, h1, h2⟩ := r.obj j b o' e1 e2
      refine ⟨y, hs b y (fun m => ?_) h1, h2.mono (List.prefix_refl _) k⟩
      rw [List.mem_singleton] at m; subst m
      exact hj (nodup_get r.nodup e1 ha)
theorem Rel.upd {loc : List (Str × V)} {hp : List O} {i : Nat} {a : Addr} {o : O} {x : Obj} (r : Rel c fx ρ ⟨loc, hp⟩ h) (ha : ρ[i]? = some a) (hs : Keep [a] h h') (hx : h'.get? a = some x) (ho : OR ρ h' o x) :
    Rel c fx ρ ⟨loc, hp.set i o⟩ h' := by
  have k : ImmKeep h h' := r.toHRel.immKeep (hs.sub fun b m => by rw [List.mem_singleton] at m; subst m; exact mem_of_get? ha)
  obtain ⟨m, ⟨o₁, es, ep, hL, hr⟩, hv⟩ := r.loc
  have ne : fx.env.locals ∉ [a] := fun m => by rw [List.mem_singleton] at m; exact r.lapart (m ▸ mem_of_get? ha)
  exact { toHRel := r.toHRel.upd ha hs hx ho, ok := r.ok, loc := ⟨m, ⟨o₁, es, ep, hs _ _ ne hL, hr⟩, fun x v e => let ⟨u, h1, h2⟩ := hv x v e; ⟨u, h1, h2.mono (List.prefix_refl _) k⟩⟩,
          lfresh := r.lfresh, lapart := r.lapart, pre := r.pre, glob := r.glob, bltn := r.bltn, kind := r.kind, cells := r.cells }
theorem Ext.upd {i : Nat} {a : Addr} (ha : ρ[i]? = some a) (hs : Keep [a] h h') : Ext fx ρ h ρ h' :=
  ⟨fun _ m => .inl m, hs.sub fun b m => by rw [List.mem_singleton] at m; subst m; exact .tail _ (mem_of_get? ha)⟩

theorem HRel.side {hp : List O} {S : List Addr} (r : HRel c ρ hp h) (hs : Keep S h h') (n₀ : ∀ b ∈ S, c.H₀.get? b = none) (nρ : ∀ b ∈ S, b ∉ ρ) (nf : ∀ b ∈ S, ∀ o, h.get? b = some o → ¬ Fix o) : HRel c ρ hp h' := by
  have k : ImmKeep h h' := fun a o f e => hs a o (fun m => nf a m o e f) e
  refine ⟨fun b o e => hs b o (fun m => by rw [n₀ b m] at e; cases e) (r.keep b o e), r.len, r.nodup, r.fresh, fun i a o e1 e2 => ?_⟩
  obtain ⟨x, h1, h2⟩ := r.obj i a o e1 e2
  exact ⟨x, hs a x (fun m => nρ a m (mem_of_get? e1)) h1, h2.mono (List.prefix_refl _) k⟩
theorem Rel.side {S : List Addr} (r : Rel c fx ρ σ h) (hs : Keep S h h') (n₀ : ∀ b ∈ S, c.H₀.get? b = none) (nρ : ∀ b ∈ S, b ∉ ρ) (nL : fx.env.locals ∉ S) (nf : ∀ b ∈ S, ∀ o, h.get? b = some o → ¬ Fix o) : Rel c fx ρ σ h' := by
  have k : ImmKeep h h' := fun a o f e => hs a o (fun m => nf a m o e f) e
  obtain ⟨m, ⟨o₁, es, ep, hL, hr⟩, hv⟩ := r.loc
  exact { toHRel := r.toHRel.side hs n₀ nρ nf, ok := r.ok, loc := ⟨m, ⟨o₁, es, ep, hs _ _ nL hL, hr⟩, fun x v e => let ⟨u, h1, h2⟩ := hv x v e; ⟨u, h1, h2.mono (List.prefix_refl _) k⟩⟩,
          lfresh := r.lfresh, lapart := r.lapart, pre := r.pre, glob := r.glob, bltn := r.bltn, kind := r.kind, cells := r.cells }

noncomputable def put (x : Str) (v : V) : List (Str × V) → List (Str × V)
  | [] => [(x, v)]
  | (y, u) :: r => if x == y then (y, v) :: r else (y, u) :: put x v r
theorem put_lookup (x : Str) (v : V) (y : Str) : ∀ (l : List (Str × V)), (put x v l).lookup y = if y == x then some v else l.lookup y
  | [] => by
    unfold put
    rw [List.lookup_cons]
    cases y == x <;> simp
  | (z, u) :: r => by
    unfold put
    cases hz : x == z with
    | true =>
      have := beq_iff_eq.mp hz; subst this
      simp only [if_true, List.lookup_cons]
      cases y == x <;> rfl
    | false =>
      simp only [Bool.false_eq_true, if_false, List.lookup_cons, put_lookup x v y r]
      cases hy : y == z with
      | true =>
        have := beq_iff_eq.mp hy; subst this
        have : (y == x) = false := by
          cases q : y == x with
          | false => rfl
          | true => rw [beq_iff_eq.mp q] at hz; simp at hz
        simp [this]
      | false => rfl
theorem Rel.setLoc {loc : List (Str × V)} {hp : List O} {x : Str} {v : V} {u : Value} {m : Str → Option Value} (r : Rel c fx ρ ⟨loc, hp⟩ h) (hm : h.Ns fx.env.locals m)
    (hn : h'.Ns fx.env.locals (fun y => if y = x then some u else m y)) (hs : Heap.SameBut fx.env.locals h h') (hv : VR ρ h v u) : Rel c fx ρ ⟨put x v loc, hp⟩ h' := by
  have ks : Keep [fx.env.locals] h h' := .of_sameBut hs
  have k : ImmKeep h h' := r.immKeep (ks.sub fun b m => by rw [List.mem_singleton] at m; subst m; exact .head _)
  obtain ⟨m', hm', hl⟩ := r.loc
  have em : m' = m := by
    obtain ⟨o₁, es₁, ep₁, e1, e2, _, e3⟩ := hm
    obtain ⟨o₂, es₂, ep₂, f1, f2, _, f3⟩ := hm'
    rw [e1] at f1; cases f1
    rw [e2] at f2; cases f2
    funext y; rw [← e3, ← f3]
  subst em
  exact { toHRel := r.toHRel.side ks (fun b m => by rw [List.mem_singleton] at m; subst m; exact r.lfresh) (fun b m => by rw [List.mem_singleton] at m; subst m; exact r.lapart)
            (fun b m o e => by
              rw [List.mem_singleton] at m; subst m
              obtain ⟨o₁, es, ep, e1, e2⟩ := r.locAt
              rw [e] at e1; cases e1
              exact fun f => f.notDict e2)
          ok := r.ok
          loc := ⟨_, hn, fun y v' e => by
            rw [put_lookup] at e
            cases hy : y == x with
            | true =>
              rw [hy] at e; simp at e; subst e
              have := beq_iff_eq.mp hy; subst this
              exact ⟨u, by simp, hv.mono (List.prefix_refl _) k⟩
            | false =>
              rw [hy] at e; simp at e
              obtain ⟨u', h1, h2⟩ := hl y v' e
              have : y ≠ x := fun q => by rw [q] at hy; simp at hy
              exact ⟨u', by simp [this, h1], h2.mono (List.prefix_refl _) k⟩⟩
          lfresh := r.lfresh, lapart := r.lapart, pre := r.pre, glob := r.glob, bltn := r.bltn, kind := r.kind, cells := r.cells }
theorem Ext.setLoc (hs : Heap.SameBut fx.env.locals h h') : Ext fx ρ h ρ h' := ⟨fun _ m => .inl m, (Keep.of_sameBut hs).sub fun b m => by rw [List.mem_singleton] at m; subst m; exact .head _⟩
end
end Mine
namespace Mine
open PySem PySem.W PyProof.Rows

section
variable {c : Cx} {d : Nat} {fx : Fx} {ρ ρ' ρ'' : List Addr} {σ σ' : St} {h h' h'' : Heap} {s s' s₁ : Shared} {A : Around} {Q : V → St → Prop}
  {loc : List (Str × V)} {hp : List O}

theorem EV.cint {i k pos} (q : Q (.int i) σ) : EV c d fx (eval (.Constant (.int i) k pos) fx.env) σ Q := fun _ _ _ _ r => wpAny_Constant_int (Post.same r rfl rfl rfl (.int _ _) q)
theorem EV.cstr {x : Str} {k pos} {l : List Nat} (q : Q (.str l) σ) (e : x.cps.toList = l := by rfl) : EV c d fx (eval (.Constant (.str x) k pos) fx.env) σ Q :=
  fun _ _ _ _ r => Calls.Constant_str (Post.same r rfl rfl rfl (.str _ e) q)
theorem EV.cnone {k pos} (q : Q .none σ) : EV c d fx (eval (.Constant .none k pos) fx.env) σ Q := fun ρ s A _ r => (wpAny_pure (Post.same r rfl rfl rfl .none q) : wpAny c.M A (pure .none) _ _ s)
theorem EV.cbool {b k pos} (q : Q (.bool b) σ) : EV c d fx (eval (.Constant (.bool b) k pos) fx.env) σ Q := fun ρ s A _ r => (wpAny_pure (Post.same r rfl rfl rfl (.bool _) q) : wpAny c.M A (pure (.bool b)) _ _ s)

theorem EV.var {x : Str} {pos : Pos} {v : V} (e : σ.loc.lookup x = some v) (q : Q v σ) (hx : fx.env.kindOf x = some .local := by rfl) (hd : (x == ("__debug__" : Str)) = false := by decide) :
    EV c d fx (eval (.Name x pos) fx.env) σ Q := fun ρ s A _ r => by
  obtain ⟨m, hm, hv⟩ := r.1.loc
  obtain ⟨u, h1, h2⟩ := hv x v e
  exact wpAny_Name (wpAny_loadName_local r.1.kind hx hm h1 (Post.same r rfl rfl rfl h2 q)) hd
theorem Rel.cellAt (r : Rel c fx ρ σ h) {x : Str} {i : Nat} {v : V} (e : fx.cl.lookup x = some i) (ho : σ.hp[i]? = some (.cell (some v))) : ∃ a u, fx.env.cells.lookup x = some a ∧ ρ[i]? = some a ∧ h.IsCell a (some u) ∧ VR ρ h v u := by
  obtain ⟨a, h1, h2⟩ := r.cells.look e
  have h2' := pre_get r.pre h2
  obtain ⟨x', h3, h4⟩ := r.obj i a _ h2' ho
  obtain ⟨y, hy, h5⟩ := h4
  cases y with
  | none => exact h5.elim
  | some y => exact ⟨a, y, h1, h2', ⟨_, h3, hy⟩, h5⟩
theorem EV.cell {x : Str} {pos : Pos} {i : Nat} {v : V} (e : fx.cl.lookup x = some i) (ho : σ.hp[i]? = some (.cell (some v))) (q : Q v σ) (hx : fx.env.kindOf x = some .cell := by rfl) (hd : (x == ("__debug__" : Str)) = false := by decide) :
    EV c d fx (eval (.Name x pos) fx.env) σ Q := fun ρ s A _ r => by
  obtain ⟨a, u, h1, h2, h3, h4⟩ := r.1.cellAt e ho
  exact wpAny_Name (wpAny_loadName_cell r.1.kind hx h1 h3 (Post.same r rfl rfl rfl h4 q)) hd
theorem EV.free {x : Str} {pos : Pos} {i : Nat} {v : V} (e : fx.cl.lookup x = some i) (ho : σ.hp[i]? = some (.cell (some v))) (q : Q v σ) (hx : fx.env.kindOf x = some .free := by rfl) (hd : (x == ("__debug__" : Str)) = false := by decide)
    (hn : (x == ("__classdict__" : Str)) = false := by decide) :
    EV c d fx (eval (.Name x pos) fx.env) σ Q := fun ρ s A _ r => by
  obtain ⟨a, u, h1, h2, h3, h4⟩ := r.1.cellAt e ho
  exact wpAny_Name (wpAny_loadName_free r.1.kind hx h1 h3 (Post.same r rfl rfl rfl h4 q) hn) hd
theorem Rel.gNs (r : Rel c fx ρ σ h) : h.Ns fx.env.globals c.mg := by rw [r.glob]; exact r.ok.t.g.keeps r.keep
theorem Rel.bNs (r : Rel c fx ρ σ h) : h.Ns fx.env.builtins c.mb := by rw [r.bltn]; exact r.ok.t.b.keeps r.keep
theorem EV.binop {l r : Expr} {op pos} (h : EV c d fx (eval l fx.env) σ (fun v σ₁ => EV c d fx (eval r fx.env) σ₁ (fun u σ₂ => OV2 c d fx (binaryOp op) v u σ₂ Q))) : EV c d fx (eval (.BinOp l op r pos) fx.env) σ Q := fun ρ s A R r => by
  refine wpAny_BinOp (wpAny_mono (h ρ s A R r) ?_ fun _ _ e => e)
  rintro x s₁ ⟨ρ₁, v, σ₁, p₁, e₁, r₁, v₁, h₁⟩
  refine wpAny_mono (h₁ ρ₁ s₁ A R r₁) ?_ fun _ _ e => e
  rintro y s₂ ⟨ρ₂, u, σ₂, p₂, e₂, r₂, v₂, h₂⟩
  refine wpAny_mono (h₂ ρ₂ s₂ A x y R r₂ (v₁.mono p₂ (r₁.1.immKeep e₂.keep)) v₂) (fun _ _ z => (z.trans p₂ e₂ r₂).trans p₁ e₁ r₁) fun _ _ e => e
noncomputable def TV (c : Cx) (d : Nat) (fx : Fx) (e : Expr) (σ : St) (Q : Bool → St → Prop) : Prop := UV c d fx (isTrue e fx.env (eval e fx.env)) σ Q
inductive BoolI (Q : Bool → St → Prop) (w : V) (σ : St) : Prop
  | mk (b : Bool) (e : w = .bool b) (q : Q b σ) : BoolI Q w σ
theorem TV.cmp {l r : Expr} {op pos} {Q : Bool → St → Prop} (h : EV c d fx (eval l fx.env) σ (fun v σ₁ => EV c d fx (eval r fx.env) σ₁ (fun u σ₂ => OV2 c d fx (compareOp op) v u σ₂ (BoolI Q))))
    (hm : behindInMarks op r = false := by with_unfolding_all rfl) : TV c d fx (.Compare l [op] [r] pos) σ Q := fun ρ s A R r => by
  refine wpAny_isTrue_Compare1 (wpAny_mono (h ρ s A R r) ?_ fun _ _ e => e) hm
  rintro x s₁ ⟨ρ₁, v, σ₁, p₁, e₁, r₁, v₁, h₁⟩
  refine wpAny_mono (h₁ ρ₁ s₁ A R r₁) ?_ fun _ _ e => e
  rintro y s₂ ⟨ρ₂, u, σ₂, p₂, e₂, r₂, v₂, h₂⟩
  refine wpAny_mono (h₂ ρ₂ s₂ A x y R r₂ (v₁.mono p₂ (r₁.1.immKeep e₂.keep)) v₂) ?_ fun _ _ e => e
  rintro z s₃ ⟨ρ₃, w, σ₃, p₃, e₃, r₃, v₃, b, rfl, h₃⟩
  cases v₃ using VR.boolC
  refine wpAny_truthy_bool ?_
  exact ⟨ρ₃, σ₃, (p₁.trans p₂).trans p₃, (e₁.trans e₂ r₁.1.hasL).trans e₃ r₂.1.hasL, r₃, h₃⟩

theorem OV2.add_int {a b : Int} (q : Q (.int (a + b)) σ) : OV2 c d fx (binaryOp .Add) (.int a) (.int b) σ Q := fun ρ s A x y _ r vx vy => by
  cases vx using VR.intC; cases vy using VR.intC; exact P.add_int (Post.same r rfl rfl rfl (.int _ _) q)
theorem OV2.sub_int {a b : Int} (q : Q (.int (a - b)) σ) : OV2 c d fx (binaryOp .Sub) (.int a) (.int b) σ Q := fun ρ s A x y _ r vx vy => by
  cases vx using VR.intC; cases vy using VR.intC; exact P.sub_int (Post.same r rfl rfl rfl (.int _ _) q)
theorem OV2.mod_int {a b : Int} (hb : b ≠ 0) (q : Q (.int (a.fmod b)) σ) : OV2 c d fx (binaryOp .Mod) (.int a) (.int b) σ Q := fun ρ s A x y _ r vx vy => by
  cases vx using VR.intC; cases vy using VR.intC; exact PyProof.Rows.mod_int hb (Post.same r rfl rfl rfl (.int _ _) q)
theorem OV2.iadd_int {a b : Int} (q : Q (.int (a + b)) σ) : OV2 c d fx (inplaceOp .Add) (.int a) (.int b) σ Q := fun ρ s A x y _ r vx vy => by
  cases vx using VR.intC; cases vy using VR.intC; exact P.iadd_int (Post.same r rfl rfl rfl (.int _ _) q)
theorem OV2.eq_int {a b : Int} (q : Q (.bool (a == b)) σ) : OV2 c d fx (compareOp .Eq) (.int a) (.int b) σ Q := fun ρ s A x y _ r vx vy => by
  cases vx using VR.intC; cases vy using VR.intC; exact P.eq_int (Post.same r rfl rfl rfl (.bool _) q)
theorem OV2.ne_int {a b : Int} (q : Q (.bool (a != b)) σ) : OV2 c d fx (compareOp .NotEq) (.int a) (.int b) σ Q := fun ρ s A x y _ r vx vy => by
  cases vx using VR.intC; cases vy using VR.intC; exact P.ne_int (Post.same r rfl rfl rfl (.bool _) q)
theorem OV2.lt_int {a b : Int} (q : Q (.bool (decide (a < b))) σ) : OV2 c d fx (compareOp .Lt) (.int a) (.int b) σ Q := fun ρ s A x y _ r vx vy => by
  cases vx using VR.intC; cases vy using VR.intC; exact P.lt_int (Post.same r rfl rfl rfl (.bool _) q)
theorem OV2.gt_int {a b : Int} (q : Q (.bool (decide (a > b))) σ) : OV2 c d fx (compareOp .Gt) (.int a) (.int b) σ Q := fun ρ s A x y _ r vx vy => by
  cases vx using VR.intC; cases vy using VR.intC; exact P.gt_int (Post.same r rfl rfl rfl (.bool _) q)
theorem OV2.ge_int {a b : Int} (q : Q (.bool (decide (a ≥ b))) σ) : OV2 c d fx (compareOp .GtE) (.int a) (.int b) σ Q := fun ρ s A x y _ r vx vy => by
  cases vx using VR.intC; cases vy using VR.intC; exact P.ge_int (Post.same r rfl rfl rfl (.bool _) q)

theorem OV2.eq_str {a b : List Nat} (q : Q (.bool (a == b)) σ) : OV2 c d fx (compareOp .Eq) (.str a) (.str b) σ Q := fun ρ s A x y _ r vx vy => by
  cases vx using VR.strC with | str t e => cases vy using VR.strC with | str u f => subst e f; exact P.eq_str (Post.same r rfl rfl rfl (.bool _) q)
theorem OV2.ne_str {a b : List Nat} (q : Q (.bool (a != b)) σ) : OV2 c d fx (compareOp .NotEq) (.str a) (.str b) σ Q := fun ρ s A x y _ r vx vy => by
  cases vx using VR.strC with | str t e => cases vy using VR.strC with | str u f => subst e f; exact P.ne_str (Post.same r rfl rfl rfl (.bool _) q)
theorem add_post {x y : Str} {t u : Tok} (r : RelS c fx ρ σ s) (hz : x.cps.toList.length + y.cps.toList.length ≤ sizeLine) (q : Q (.str (x.cps.toList ++ y.cps.toList)) σ) :
    (if x.length == 0 then Made.val (.str y u) else if y.length == 0 then Made.val (.str x t) else Made.str (x ++ y)).post (Post c fx ρ s Q) s := by
  have hx : ∀ z : Str, (z.length == 0) = true → z.cps.toList = [] := fun z e => by
    have : z.cps.size = 0 := beq_iff_eq.mp e
    simpa using this
  split
  · rename_i e
    refine Post.same r rfl rfl rfl (.str _ rfl) ?_
    rw [hx x e] at q; exact q
  · split
    · rename_i e
      refine Post.same r rfl rfl rfl (.str _ rfl) ?_
      rw [hx y e, List.append_nil] at q; exact q
    · refine ⟨?_, Post.same r rfl rfl rfl (.str _ ?_) q⟩
      · show (x.cps ++ y.cps).size ≤ sizeLine
        simpa using hz
      · show (x.cps ++ y.cps).toList = _
        simp
theorem OV2.add_str {a b : List Nat} (hz : a.length + b.length ≤ sizeLine) (q : Q (.str (a ++ b)) σ) : OV2 c d fx (binaryOp .Add) (.str a) (.str b) σ Q := fun ρ s A x y _ r vx vy => by
  cases vx using VR.strC with | str t e => cases vy using VR.strC with | str u f => subst e f; exact P.add_str (add_post r hz q)
theorem OV2.iadd_str {a b : List Nat} (hz : a.length + b.length ≤ sizeLine) (q : Q (.str (a ++ b)) σ) : OV2 c d fx (inplaceOp .Add) (.str a) (.str b) σ Q := fun ρ s A x y _ r vx vy => by
  cases vx using VR.strC with | str t e => cases vy using VR.strC with | str u f => subst e f; exact P.iadd_str (add_post r hz q)
end
end Mine
namespace Mine
open PySem PySem.W PyProof.Rows

section
variable {c : Cx} {d : Nat} {fx : Fx} {ρ ρ' ρ'' : List Addr} {σ σ' : St} {h h' h'' : Heap} {s s' s₁ : Shared} {A : Around} {Q : V → St → Prop} {X : Fl → St → Prop}
  {loc : List (Str × V)} {hp : List O}

theorem XV.nil (q : X .next σ) : XV c d fx (execs [] fx.env) σ X := fun ρ s A _ r => wpAny_execs_nil ⟨ρ, .next, σ, .refl _ _ _, r, .next, q⟩
noncomputable abbrev thenX (c : Cx) (d : Nat) (fx : Fx) (rest : List Stmt) (X : Fl → St → Prop) : Fl → St → Prop := fun f σ₁ => match f with | .next => XV c d fx (execs rest fx.env) σ₁ X | f => X f σ₁
theorem XV.cons {st : Stmt} {rest : List Stmt} (h : XV c d fx (exec st fx.env) σ (thenX c d fx rest X)) :
    XV c d fx (execs (st :: rest) fx.env) σ X := fun ρ s A R r => by
  refine wpAny_execs_cons (wpAny_mono (h ρ s A R r) ?_ fun _ _ e => e)
  rintro x s₁ ⟨ρ₁, f, σ₁, e₁, r₁, v₁, h₁⟩
  cases v₁ with
  | next => exact wpAny_mono (h₁ ρ₁ s₁ A R r₁) (fun _ _ z => z.trans e₁ r₁) fun _ _ e => e
  | brk => exact ⟨ρ₁, .brk, σ₁, e₁, r₁, .brk, h₁⟩
  | cont => exact ⟨ρ₁, .cont, σ₁, e₁, r₁, .cont, h₁⟩
  | ret v => exact ⟨ρ₁, _, σ₁, e₁, r₁, .ret v, h₁⟩
theorem XV.ret {e : Expr} {pos} (h : EV c d fx (eval e fx.env) σ (fun v σ₁ => X (.ret v) σ₁)) : XV c d fx (exec (.Return (some e) pos) fx.env) σ X := fun ρ s A R r => by
  refine wpAny_Return_some (wpAny_mono (h ρ s A R r) ?_ fun _ _ e => e)
  rintro x s₁ ⟨ρ₁, v, σ₁, p₁, e₁, r₁, v₁, h₁⟩
  exact ⟨ρ₁, _, σ₁, e₁, r₁, .ret v₁, h₁⟩
theorem XV.brk {pos} (q : X .brk σ) : XV c d fx (exec (.Break pos) fx.env) σ X := fun ρ s A _ r => fun _ _ _ => (⟨ρ, .brk, σ, .refl _ _ _, r, .brk, q⟩ : PostX c fx ρ s X .brk s)
theorem XV.cont {pos} (q : X .cont σ) : XV c d fx (exec (.Continue pos) fx.env) σ X := fun ρ s A _ r => fun _ _ _ => (⟨ρ, .cont, σ, .refl _ _ _, r, .cont, q⟩ : PostX c fx ρ s X .cont s)
theorem XV.ifs {test : Expr} {body orelse : List Stmt} {pos} (h : TV c d fx test σ (fun b σ₁ => if b then XV c d fx (execs body fx.env) σ₁ X else XV c d fx (execs orelse fx.env) σ₁ X)) :
    XV c d fx (exec (.If test body orelse pos) fx.env) σ X := fun ρ s A R r => by
  refine wpAny_If (wpAny_mono (h ρ s A R r) ?_ fun _ _ e => e)
  rintro b s₁ ⟨ρ₁, σ₁, p₁, e₁, r₁, h₁⟩
  cases b with
  | true => exact wpAny_mono (h₁ ρ₁ s₁ A R r₁) (fun _ _ z => z.trans e₁ r₁) fun _ _ e => e
  | false => exact wpAny_mono (h₁ ρ₁ s₁ A R r₁) (fun _ _ z => z.trans e₁ r₁) fun _ _ e => e
theorem XV.expr {e : Expr} {pos} (h : EV c d fx (eval e fx.env) σ (fun _ σ₁ => X .next σ₁)) (hs : swapsWith e none pos.line fx.env = pure false := by rfl) : XV c d fx (exec (.Expr e pos) fx.env) σ X := fun ρ s A R r => by
  refine wpAny_Expr_any (wpAny_mono (h ρ s A R r) ?_ fun _ _ e => e) (by unfold interactive; rw [r.1.kind]; rfl) hs
  rintro x s₁ ⟨ρ₁, v, σ₁, p₁, e₁, r₁, v₁, h₁⟩
  exact ⟨ρ₁, .next, σ₁, e₁, r₁, .next, h₁⟩

theorem storeL {x : Str} {v : V} {u : Value} {R : Unit → Shared → Prop} (r : RelS c fx ρ ⟨loc, hp⟩ s) (hv : VR ρ s.heap v u)
    (q : ∀ s', Ext fx ρ s.heap ρ s'.heap → RelS c fx ρ ⟨put x v loc, hp⟩ s' → R () s') (hx : fx.env.kindOf x = some .local := by rfl) : wpAny c.M A (storeName fx.env x u) R noE s := by
  obtain ⟨m, hm, _⟩ := r.1.loc
  refine wpAny_storeName_local hx hm (fun h' hn hs => q _ (.setLoc hs) ⟨r.1.setLoc hm hn hs hv, r.2⟩) ?_
  rw [r.1.kind]; rfl
theorem storeC {x : Str} {i : Nat} {v : V} {v₀ : Option V} {u : Value} {R : Unit → Shared → Prop} (r : RelS c fx ρ ⟨loc, hp⟩ s) (hv : VR ρ s.heap v u) (e : fx.cl.lookup x = some i) (ho : hp[i]? = some (.cell v₀))
    (q : ∀ s', Ext fx ρ s.heap ρ s'.heap → RelS c fx ρ ⟨loc, hp.set i (.cell (some v))⟩ s' → R () s') (hx : fx.env.kindOf x = some .cell := by rfl) : wpAny c.M A (storeName fx.env x u) R noE s := by
  obtain ⟨a, h1, h2⟩ := r.1.cells.look e
  have h2' := pre_get r.1.pre h2
  obtain ⟨x', h3, h4⟩ := r.1.obj i a _ h2' ho
  obtain ⟨y, hy, h5⟩ := h4
  unfold storeName
  rw [hx, r.1.kind]
  refine wpAny_bind (wpAny_cellOf h1 ?_)
  unfold cellSet
  refine wpAny_bind (wpAny_load h3 ?_)
  rw [hy]
  refine wpAny_update h3 ?_
  have hs : Keep [a] s.heap (s.heap.update a fun o => { o with data := .cell (some u) }) := .of_sameBut (Heap.SameBut.update ..)
  have hg : (s.heap.update a fun o => { o with data := .cell (some u) }).get? a = some { x' with data := .cell (some u) } := Heap.get?_update_self _ h3 rfl
  have k : ImmKeep s.heap (s.heap.update a fun o => { o with data := .cell (some u) }) := r.1.toHRel.immKeep (hs.sub fun b m => by rw [List.mem_singleton] at m; subst m; exact mem_of_get? h2')
  exact q _ (.upd h2' hs) ⟨r.1.upd h2' hs hg ⟨some u, rfl, hv.mono (List.prefix_refl _) k⟩, r.2⟩
theorem XV.assign {x : Str} {pos' value pos} (h : EV c d fx (eval value fx.env) σ (fun v σ₁ => X .next ⟨put x v σ₁.loc, σ₁.hp⟩)) (hx : fx.env.kindOf x = some .local := by rfl)
    (hs : swapsWith value (some (.Name x pos')) pos.line fx.env = pure false := by rfl) : XV c d fx (exec (.Assign [.Name x pos'] value pos) fx.env) σ X := fun ρ s A R r => by
  refine wpAny_Assign_Name (wpAny_mono (h ρ s A R r) ?_ fun _ _ e => e) hs
  rintro y s₁ ⟨ρ₁, v, σ₁, p₁, e₁, r₁, v₁, h₁⟩
  exact storeL r₁ v₁ (fun s' e' r' => ⟨ρ₁, .next, _, e₁.trans e' r₁.1.hasL, r', .next, h₁⟩) hx
theorem XV.assignC {x : Str} {pos' value pos} {i : Nat} (h : EV c d fx (eval value fx.env) σ (fun v σ₁ => ∃ v₀, σ₁.hp[i]? = some (.cell v₀) ∧ X .next ⟨σ₁.loc, σ₁.hp.set i (.cell (some v))⟩)) (e : fx.cl.lookup x = some i)
    (hx : fx.env.kindOf x = some .cell := by rfl) (hs : swapsWith value (some (.Name x pos')) pos.line fx.env = pure false := by rfl) : XV c d fx (exec (.Assign [.Name x pos'] value pos) fx.env) σ X := fun ρ s A R r => by
  refine wpAny_Assign_Name (wpAny_mono (h ρ s A R r) ?_ fun _ _ e => e) hs
  rintro y s₁ ⟨ρ₁, v, σ₁, p₁, e₁, r₁, v₁, v₀, h₀, h₁⟩
  exact storeC r₁ v₁ e h₀ (fun s' e' r' => ⟨ρ₁, .next, _, e₁.trans e' r₁.1.hasL, r', .next, h₁⟩) hx
theorem XV.aug {x : Str} {pos' op value pos} {v₀ : V} (e : σ.loc.lookup x = some v₀) (h : EV c d fx (eval value fx.env) σ (fun v σ₁ => OV2 c d fx (inplaceOp op) v₀ v σ₁ (fun w σ₂ => X .next ⟨put x w σ₂.loc, σ₂.hp⟩)))
    (hx : fx.env.kindOf x = some .local := by rfl) : XV c d fx (exec (.AugAssign (.Name x pos') op value pos) fx.env) σ X := fun ρ s A R r => by
  obtain ⟨m, hm, hv⟩ := r.1.loc
  obtain ⟨u, h1, h2⟩ := hv x v₀ e
  refine wpAny_AugAssign_Name (wpAny_loadName_local r.1.kind hx hm h1 (wpAny_mono (h ρ s A R r) ?_ fun _ _ e => e))
  rintro y s₁ ⟨ρ₁, v, σ₁, p₁, e₁, r₁, v₁, h₁⟩
  refine wpAny_mono (h₁ ρ₁ s₁ A u y R r₁ (h2.mono p₁ (r.1.immKeep e₁.keep)) v₁) ?_ fun _ _ e => e
  rintro z s₂ ⟨ρ₂, w, σ₂, p₂, e₂, r₂, v₂, h₂⟩
  exact storeL r₂ v₂ (fun s' e' r' => ⟨ρ₂, .next, _, (e₁.trans e₂ r₁.1.hasL).trans e' r₂.1.hasL, r', .next, h₂⟩) hx

theorem EVs.nil {pos : Pos} {Q : List V → St → Prop} (q : Q [] σ) : EVs c d fx (spliced (backTo pos (starEach [] fx.env))) σ Q := fun ρ s A _ r => args_nil ⟨ρ, [], σ, List.prefix_refl _, .refl _ _ _, r, .nil, q⟩
noncomputable def starless : Expr → Bool
  | .Starred _ _ => false
  | _ => true
theorem starEach_cons {e : Expr} {rest : List Expr} {env : Env} (h : starless e = true) : starEach (e :: rest) env = (false, eval e env) :: starEach rest env := by
  cases e <;> first | (simp only [starEach]; done) | (simp [starless] at h; done)
theorem EVs.cons {e : Expr} {rest : List Expr} {pos : Pos} {Q : List V → St → Prop} (h : EV c d fx (eval e fx.env) σ (fun v σ₁ => EVs c d fx (spliced (backTo pos (starEach rest fx.env))) σ₁ (fun vs σ₂ => Q (v :: vs) σ₂)))
    (hst : starless e = true := by rfl) : EVs c d fx (spliced (backTo pos (starEach (e :: rest) fx.env))) σ Q := fun ρ s A R r => by
  have he := starEach_cons (rest := rest) (env := fx.env) hst
  refine args_cons (wpAny_mono (h ρ s A R r) ?_ fun _ _ e => e) he
  rintro x s₁ ⟨ρ₁, v, σ₁, p₁, e₁, r₁, v₁, h₁⟩
  refine wpAny_mono (h₁ ρ₁ s₁ A R r₁) ?_ fun _ _ e => e
  rintro xs s₂ ⟨ρ₂, vs, σ₂, p₂, e₂, r₂, v₂, h₂⟩
  exact ⟨ρ₂, v :: vs, σ₂, p₁.trans p₂, e₁.trans e₂ r₁.1.hasL, r₂, .cons (v₁.mono p₂ (r₁.1.immKeep e₂.keep)) v₂, h₂⟩

theorem EV.tuple {elts : List Expr} {k : Nat} {pos : Pos} (h : EVs c d fx (spliced (backTo pos (starEach elts fx.env))) σ (fun vs σ₁ => vs.length ≤ 1000 ∧ Q (.tup vs) σ₁)) : EV c d fx (eval (.Tuple elts k pos) fx.env) σ Q := fun ρ s A R r => by
  refine Tuple_ (wpAny_mono (h ρ s A R r) ?_ fun _ _ e => e)
  rintro xs s₁ ⟨ρ₁, vs, σ₁, p₁, e₁, r₁, v₁, hl, h₁⟩
  have hn : xs.length ≤ sizeLine := by rw [← v₁.length, sizeLine_eq]; omega
  refine wpAny_newTuple ?_ hn
  refine ⟨ρ₁, .tup vs, σ₁, p₁, e₁.trans (.push _) r₁.1.hasL, ⟨r₁.1.push _, r₁.2⟩, .tup (Heap.get?_push_size _ rfl) (v₁.mono (List.prefix_refl _) fun _ _ _ e => Heap.get?_push_of_some _ e), h₁⟩
theorem EV.list {elts : List Expr} {pos : Pos} (h : EVs c d fx (spliced (backTo pos (starEach elts fx.env))) σ (fun vs σ₁ => vs.length ≤ 1000 ∧ Q (.ref σ₁.hp.length) ⟨σ₁.loc, σ₁.hp ++ [.list vs]⟩)) : EV c d fx (eval (.List elts pos) fx.env) σ Q := fun ρ s A R r => by
  refine List_ (wpAny_mono (h ρ s A R r) ?_ fun _ _ e => e)
  rintro xs s₁ ⟨ρ₁, vs, ⟨loc₁, hp₁⟩, p₁, e₁, r₁, v₁, hl, h₁⟩
  have hn : xs.length ≤ sizeLine := by rw [← v₁.length, sizeLine_eq]; omega
  refine wpAny_newObj_type ?_ (by show xs.toArray.size ≤ sizeLine; rw [List.size_toArray]; exact hn)
  have ho : OR (ρ₁ ++ [s₁.heap.objs.size]) (s₁.heap.push (listObj xs.toArray 0)) (.list vs) (listObj xs.toArray 0) := ⟨xs, 0, rfl, v₁.mono (pre_snoc ..) fun _ _ _ e => Heap.get?_push_of_some _ e⟩
  refine ⟨ρ₁ ++ [s₁.heap.objs.size], .ref hp₁.length, _, p₁.trans (pre_snoc ..), e₁.trans (.alloc _) r₁.1.hasL, ⟨r₁.1.alloc rfl ho, r₁.2⟩, .ref ?_, h₁⟩
  rw [← r₁.1.len, List.getElem?_append_right (Nat.le_refl _)]; simp
end
end Mine
namespace Mine
open PySem PySem.W PyProof.Rows

structure FExt (ρ : List Addr) (h : Heap) (ρ' : List Addr) (h' : Heap) : Prop where
  pre : ρ <+: ρ'
  new : ∀ a ∈ ρ', a ∈ ρ ∨ h.get? a = none
  keep : Keep ρ h h'
inductive FPost (c : Cx) (ρ : List Addr) (s : Shared) (Q : V → List O → Prop) (r : Result) (s' : Shared) : Prop
  | mk (ρ' : List Addr) (v : V) (hp' : List O) (y : Value) (e : r = .ok (.ret y)) (x : FExt ρ s.heap ρ' s'.heap) (hr : HRelS c ρ' hp' s') (hv : VR ρ' s'.heap v y) (q : Q v hp') : FPost c ρ s Q r s'
noncomputable def FV (c : Cx) (k : Nat) (f : V) (vs : List V) (hp : List O) (Q : V → List O → Prop) : Prop :=
  ∀ ρ s A x xs, Room k A → c.Ok → HRelS c ρ hp s → VR ρ s.heap f x → VRs ρ s.heap vs xs → codeAny c.M A (.call x ⟨xs, []⟩) (FPost c ρ s Q) s

section
variable {c : Cx} {d k : Nat} {fx : Fx} {ρ ρ' ρ'' : List Addr} {σ σ' : St} {h h' h'' : Heap} {s s' s₁ : Shared} {A : Around} {Q : V → St → Prop} {X : Fl → St → Prop}
  {loc : List (Str × V)} {hp hp' : List O}

theorem FV.mono {f : V} {vs : List V} {Q Q' : V → List O → Prop} (h : FV c k f vs hp Q) (hq : ∀ v hp', Q v hp' → Q' v hp') : FV c k f vs hp Q' :=
  fun ρ s A x xs R ok r vf va => codeAny_mono (h ρ s A x xs R ok r vf va) fun _ _ ⟨ρ', v, hp', y, e, e1, r1, v1, q⟩ => ⟨ρ', v, hp', y, e, e1, r1, v1, hq _ _ q⟩
theorem FV.le {f : V} {vs : List V} {Q : V → List O → Prop} {k' : Nat} (h : FV c k f vs hp Q) (hk : k ≤ k') : FV c k' f vs hp Q :=
  fun ρ s A x xs R ok r vf va => h ρ s A x xs (R.le hk) ok r vf va

theorem Rel.after (r : Rel c fx ρ ⟨loc, hp⟩ h) (e : FExt ρ h ρ' h') (r' : HRel c ρ' hp' h') : Rel c fx ρ' ⟨loc, hp'⟩ h' := by
  have k : ImmKeep h h' := r.toHRel.immKeep e.keep
  obtain ⟨m, ⟨o₁, es, ep, hL, hr⟩, hv⟩ := r.loc
  exact { toHRel := r', ok := r.ok, loc := ⟨m, ⟨o₁, es, ep, e.keep _ _ r.lapart hL, hr⟩, fun x v q => let ⟨u, h1, h2⟩ := hv x v q; ⟨u, h1, h2.mono e.pre k⟩⟩,
          lfresh := r.lfresh,
          lapart := fun m => by
            rcases e.new _ m with m | z
            · exact r.lapart m
            · rw [hL] at z; cases z
          pre := r.pre.trans e.pre, glob := r.glob, bltn := r.bltn, kind := r.kind, cells := r.cells }
theorem FExt.ext (e : FExt ρ h ρ' h') : Ext fx ρ h ρ' h' := ⟨e.new, e.keep.sub fun _ m => .tail _ m⟩

theorem callFV {f : V} {x : Value} {vs : List V} {xs : List Value} (R : Room d A) (hk : k ≤ d) (r : RelS c fx ρ σ s) (vf : VR ρ s.heap f x) (va : VRs ρ s.heap vs xs)
    (h : FV c k f vs σ.hp (fun v hp' => Q v ⟨σ.loc, hp'⟩)) : wpAny c.M A (call x xs) (Post c fx ρ s Q) noE s := by
  obtain ⟨loc, hp⟩ := σ
  refine wpAny_call (codeAny_mono (h ρ s A x xs (R.le hk) r.1.ok ⟨r.1.toHRel, r.2⟩ vf va) ?_)
  rintro _ s' ⟨ρ', v, hp', y, rfl, e, r', hv, q⟩
  exact ⟨ρ', v, ⟨loc, hp'⟩, e.pre, e.ext, ⟨r.1.after e r'.1, r'.2⟩, hv, q⟩

noncomputable def plainArgs : List Expr → Bool
  | [] => true
  | .Starred _ _ :: _ => false
  | _ :: r => plainArgs r
theorem star_plain {env : Env} : ∀ {args : List Expr}, plainArgs args = true → starEach args env = args.map fun e => (false, eval e env)
  | [], _ => rfl
  | e :: r, q => by
    cases e <;> first | (simp only [plainArgs] at q; cases q) | (simp only [plainArgs] at q; simp only [starEach, List.map_cons, star_plain q])
theorem backTo_plain {pos : Pos} {env : Env} (args : List Expr) : backTo pos (args.map fun e => (false, eval e env)) = args.map fun e => (false, eval e env) := by
  unfold backTo
  rw [List.map_map]
  rfl
theorem any_plain {env : Env} (args : List Expr) : (args.map fun e => (false, eval e env)).any (·.1) = false := by
  induction args with
  | nil => rfl
  | cons e r ih => simp only [List.map_cons, List.any_cons, ih]; rfl
theorem evalArgs_V {M : Model} {E : Value → Shared → Prop} {env : Env} {f : Value} {R : Args → Shared → Prop} (args : List Expr)
    (h : wpAny M A (spliced (args.map fun e => (false, eval e env))) (fun vs s' => R ⟨vs, []⟩ s') E s) : wpAny M A (evalArgs f true (args.map fun e => (false, eval e env)) []) R E s := by
  cases args with
  | nil =>
    unfold evalArgs
    show wpAny M A (spliced [] >>= _) R E s
    refine wpAny_bind (wpAny_mono h (fun vs s' h' => ?_) fun _ _ x => x)
    refine wpAny_holding ?_
    exact wpAny_bind (wpAny_pure (wpAny_bind (wpAny_pure (wpAny_pure h'))))
  | cons e r => exact Calls.evalArgs_plain h
theorem callWithV {pos : Pos} {f : Value} {first : List Value} {args : List Expr} {P : Heap → Prop} {G : List V → St → Prop} (R : Room d A) (r : RelS c fx ρ σ s) (hpl : plainArgs args = true)
    (hk : ∀ h, P h → ∃ k, (k = Keeper.frame ∨ k = Keeper.machine ∨ k = Keeper.boundFrame) ∧ Looks c.M h (keeperOf f) k)
    (h : EVs c d fx (spliced (backTo pos (starEach args fx.env))) σ G)
    (hP : ∀ ρ' s' σ' vs, ρ <+: ρ' → Ext fx ρ s.heap ρ' s'.heap → RelS c fx ρ' σ' s' → G vs σ' → P s'.heap)
    (hc : ∀ ρ' s' vs xs σ', ρ <+: ρ' → Ext fx ρ s.heap ρ' s'.heap → RelS c fx ρ' σ' s' → VRs ρ' s'.heap vs xs → G vs σ' → wpAny c.M A (call f (first ++ xs)) (Post c fx ρ' s' Q) noE s') :
    wpAny c.M A (callWith pos f first (backTo pos (starEach args fx.env)) []) (Post c fx ρ s Q) noE s := by
  have hh := h ρ s A R r
  rw [star_plain hpl, backTo_plain] at hh ⊢
  refine callWith_of (P := P) (by rw [any_plain]; rfl) hk (evalArgs_V args (wpAny_mono hh ?_ fun _ _ e => e))
  rintro xs s₁ ⟨ρ₁, vs, σ₁, p₁, e₁, r₁, v₁, h₁⟩
  exact ⟨hP ρ₁ s₁ σ₁ vs p₁ e₁ r₁ h₁, wpAny_mono (hc ρ₁ s₁ vs xs σ₁ p₁ e₁ r₁ v₁ h₁) (fun _ _ z => z.trans p₁ e₁ r₁) fun _ _ e => e⟩

theorem EV.call {x : Str} {np pos : Pos} {args : List Expr} {a : Addr} (k : Nat) (e : nsIn c.K mainGlobals x = some (some (.ref a))) (hk : keepIn c.K (.ref a) = true)
    (h : EVs c d fx (spliced (backTo pos (starEach args fx.env))) σ (fun vs σ₂ => FV c k (.top a) vs σ₂.hp (fun v hp' => Q v ⟨σ₂.loc, hp'⟩)))
    (hkd : k ≤ d := by decide) (hpl : plainArgs args = true := by rfl) (hx : fx.env.kindOf x = some .globalImplicit := by rfl) (hd : (x == ("__debug__" : Str)) = false := by decide) :
    EV c d fx (eval (.Call (.Name x np) args [] pos) fx.env) σ Q := fun ρ s A R r => by
  refine Call_ ?_
  refine Calls.Name_function_global r.1.kind hx (Calls.loadGlobal_global r.1.gNs (mg_of r.1.ok.k r.1.ok.t.g e) ?_) hd
  refine callWithV (P := fun h => c.K.In h) R r hpl (fun h X => keeps_K hk h X) h (fun ρ' s' σ' vs p e r' _ => r'.1.ok.k.keeps r'.1.keep) fun ρ' s' vs xs σ' p e r' va hf => ?_
  exact callFV R hkd r' (.top a) va hf
theorem EV.callB {x : Str} {np pos : Pos} {args : List Expr} {id : String} (e : nsIn c.K mainGlobals x = some none) (hv : bootBuiltins x = some (.builtin id)) (hn : x ≠ "__name__")
    (h : EVs c d fx (spliced (backTo pos (starEach args fx.env))) σ (fun vs σ₂ => OVs c d fx (fun xs => PySem.call (.builtin id) xs) vs σ₂ Q))
    (hpl : plainArgs args = true := by rfl) (hx : fx.env.kindOf x = some .globalImplicit := by rfl) (hd : (x == ("__debug__" : Str)) = false := by decide) :
    EV c d fx (eval (.Call (.Name x np) args [] pos) fx.env) σ Q := fun ρ s A R r => by
  refine Call_ ?_
  refine Calls.Name_function_global r.1.kind hx (Calls.loadGlobal_builtin r.1.gNs (mg_none_of r.1.ok.k r.1.ok.t.g e) r.1.bNs ((r.1.ok.t.builtins x hn).trans hv) ?_) hd
  exact callWithV (P := fun _ => True) R r hpl (fun h _ => ⟨.machine, .inr (.inl rfl), Looks.of_pure rfl⟩) h (fun _ _ _ _ _ _ _ _ => trivial) fun ρ' s' vs xs σ' p e r' va hf => hf ρ' s' A xs R r' va
theorem EV.callT {x : Str} {np pos : Pos} {args : List Expr} {id : String} (e : nsIn c.K mainGlobals x = some none) (hv : bootBuiltins x = some (.type id)) (hn : x ≠ "__name__")
    (h : EVs c d fx (spliced (backTo pos (starEach args fx.env))) σ (fun vs σ₂ => OVs c d fx (fun xs => PySem.call (.type id) xs) vs σ₂ Q))
    (hpl : plainArgs args = true := by rfl) (hx : fx.env.kindOf x = some .globalImplicit := by rfl) (hd : (x == ("__debug__" : Str)) = false := by decide) :
    EV c d fx (eval (.Call (.Name x np) args [] pos) fx.env) σ Q := fun ρ s A R r => by
  refine Call_ ?_
  refine Calls.Name_function_global r.1.kind hx (Calls.loadGlobal_builtin r.1.gNs (mg_none_of r.1.ok.k r.1.ok.t.g e) r.1.bNs ((r.1.ok.t.builtins x hn).trans hv) ?_) hd
  exact callWithV (P := fun _ => True) R r hpl (fun h _ => ⟨.machine, .inr (.inl rfl), Looks.of_pure rfl⟩) h (fun _ _ _ _ _ _ _ _ => trivial) fun ρ' s' vs xs σ' p e r' va hf => hf ρ' s' A xs R r' va

structure ClsK (K : Frag) (C : Addr) : Prop where
  has : hasDictIn K C = true
  ga : findIn K (.ref C) "__getattribute__" = some (some (.builtin "object.__getattribute__"))
  gat : findIn K (.ref C) "__getattr__" = some none
  sa : findIn K (.ref C) "__setattr__" = some (some (.builtin "object.__setattr__"))
  over : plainOver K C = true
theorem NsR.get {ρ : List Addr} {h : Heap} {n : Str} {v : V} : ∀ {kvs : List (Str × V)} {es : List DictEntry}, NsR ρ h kvs es → kvs.lookup n = some v → ∃ x, getL n es = some (some x) ∧ VR ρ h v x
  | [], [], _, e => by cases e
  | (m, u) :: kvs, en :: es, r, e => by
    obtain ⟨⟨t, hk⟩, hv, hr⟩ := r
    rw [List.lookup_cons] at e
    unfold getL
    rw [List.find?_cons, hk]
    cases hb : n == m with
    | true =>
      rw [hb] at e; cases e
      have := beq_iff_eq.mp hb; subst this
      have : Value.isStr (.str n t) n = true := by simp [Value.isStr]
      rw [this]; exact ⟨_, rfl, hv⟩
    | false =>
      rw [hb] at e
      have : Value.isStr (.str m t) n = false := by
        simp only [Value.isStr]
        cases q : m == n with
        | false => rfl
        | true => rw [beq_iff_eq.mp q] at hb; simp at hb
      rw [this]
      obtain ⟨x, h1, h2⟩ := NsR.get hr e
      unfold getL at h1
      dsimp only
      cases hf : es.find? (·.key.isStr n) with
      | none => rw [hf] at h1; dsimp only at h1; split at h1 <;> cases h1
      | some e' => rw [hf] at h1; exact ⟨x, h1, h2⟩
  | _ :: _, [], r, _ => r.elim
  | [], _ :: _, r, _ => r.elim
theorem NsR.noRef {ρ : List Addr} {h : Heap} : ∀ {kvs : List (Str × V)} {es : List DictEntry}, NsR ρ h kvs es → es.any (·.refKey) = false
  | [], [], _ => rfl
  | (m, u) :: kvs, en :: es, r => by
    obtain ⟨⟨t, hk⟩, hv, hr⟩ := r
    rw [List.any_cons, hr.noRef, Bool.or_false]
    unfold DictEntry.refKey; rw [hk]
  | _ :: _, [], r => r.elim
  | [], _ :: _, r => r.elim
theorem NsR.none {ρ : List Addr} {h : Heap} {n : Str} : ∀ {kvs : List (Str × V)} {es : List DictEntry}, NsR ρ h kvs es → kvs.lookup n = none → es.find? (·.key.isStr n) = none
  | [], [], _, _ => rfl
  | (m, u) :: kvs, en :: es, r, e => by
    obtain ⟨⟨t, hk⟩, hv, hr⟩ := r
    rw [List.lookup_cons] at e
    rw [List.find?_cons, hk]
    cases hb : n == m with
    | true => rw [hb] at e; cases e
    | false =>
      rw [hb] at e
      have : Value.isStr (.str m t) n = false := by
        simp only [Value.isStr]
        cases q : m == n with
        | false => rfl
        | true => rw [beq_iff_eq.mp q] at hb; simp at hb
      rw [this]; exact hr.none e
  | _ :: _, [], r, _ => r.elim
  | [], _ :: _, r, _ => r.elim
theorem NsR.miss {ρ : List Addr} {h : Heap} {n : Str} {kvs : List (Str × V)} {es : List DictEntry} (r : NsR ρ h kvs es) (e : kvs.lookup n = .none) : getL n es = some .none := by
  unfold getL; rw [r.none e, r.noRef]; rfl
theorem NsR.put {ρ : List Addr} {h : Heap} {n : Str} {hsh : Int} {t : Tok} {v : V} {x : Value} (hv : VR ρ h v x) : ∀ {kvs : List (Str × V)} {es : List DictEntry}, NsR ρ h kvs es → NsR ρ h (put n v kvs) (putL n hsh (.str n t) x es)
  | [], [], _ => ⟨⟨t, rfl⟩, hv, trivial⟩
  | (m, u) :: kvs, en :: es, r => by
    obtain ⟨⟨t', hk⟩, hu, hr⟩ := r
    unfold Mine.put putL
    rw [hk]
    cases hb : n == m with
    | true =>
      have := beq_iff_eq.mp hb; subst this
      have : Value.isStr (.str n t') n = true := by simp [Value.isStr]
      rw [this]; exact ⟨⟨t', rfl⟩, hv, hr⟩
    | false =>
      have : Value.isStr (.str m t') n = false := by
        simp only [Value.isStr]
        cases q : m == n with
        | false => rfl
        | true => rw [beq_iff_eq.mp q] at hb; simp at hb
      rw [this]; exact ⟨⟨t', hk⟩, hu, NsR.put hv hr⟩
  | _ :: _, [], r => r.elim
  | [], _ :: _, r => r.elim
theorem NsR.length {ρ : List Addr} {h : Heap} : ∀ {kvs : List (Str × V)} {es : List DictEntry}, NsR ρ h kvs es → kvs.length = es.length
  | [], [], _ => rfl
  | _ :: _, _ :: _, r => congrArg (· + 1) (NsR.length r.2.2)
  | _ :: _, [], r => r.elim
  | [], _ :: _, r => r.elim
theorem HRel.inst (r : HRel c ρ hp h) {i j : Nat} {C : Addr} {kvs : List (Str × V)} (e1 : hp[i]? = some (.inst C j)) (e2 : hp[j]? = some (.ns kvs)) :
    ∃ x dx es n, ρ[i]? = some x ∧ ρ[j]? = some dx ∧ h.get? x = some (instObj C dx) ∧ h.get? dx = some (dictOf es n) ∧ NsR ρ h kvs es ∧ InstAt h x (instObj C dx) C (some (dictOf es n)) := by
  obtain ⟨x, ox, h1, h2, dx, h3, rfl⟩ := r.at e1
  obtain ⟨dx', od, g1, g2, es, n, rfl, g3⟩ := r.at e2
  rw [h3] at g1; cases g1
  exact ⟨x, dx, es, n, h1, h3, h2, g2, g3, h2, rfl, rfl, g2⟩

noncomputable def V.handed : V → Bool
  | .bi id => (withoutEnding? id "#data").isNone
  | _ => true
theorem VR.handed {v : V} {x : Value} (r : VR ρ h v x) (e : v.handed = true) : handedIn x = true := by
  cases r <;> first | rfl | exact e

theorem getAttrV {x : Addr} {i j : Nat} {C : Addr} {kvs : List (Str × V)} {name : Str} {v : V} {expr : Bool} {R : Value → Shared → Prop} (r : RelS c fx ρ σ s) (hx : ρ[i]? = some x) (e1 : σ.hp[i]? = some (.inst C j)) (e2 : σ.hp[j]? = some (.ns kvs))
    (e : kvs.lookup name = some v) (hC : ClsK c.K C) (hn : findIn c.K (.ref C) name = some none) (hv : v.handed = true)
    (q : ∀ u, VR ρ s.heap v u → R u { s with toks := s.toks + 1 }) : wpAny c.M A (getAttr (.ref x) name expr) R noE s := by
  obtain ⟨x', dx, es, n, h1, h2, h3, h4, h5, I⟩ := r.1.toHRel.inst e1 e2
  rw [hx] at h1; cases h1
  obtain ⟨u, g1, g2⟩ := h5.get e
  exact get_value (r.1.ok.k.keeps r.1.keep) I hC.ga (findObj_own hC.has hn rfl (by rw [lookIn_dict]; exact g1)) (g2.handed hv) (q u g2)
theorem getMethV {x : Addr} {i j : Nat} {C f : Addr} {kvs : List (Str × V)} {name : Str} {expr : Bool} {R : Value → Shared → Prop} (r : RelS c fx ρ σ s) (hx : ρ[i]? = some x) (e1 : σ.hp[i]? = some (.inst C j)) (e2 : σ.hp[j]? = some (.ns kvs))
    (e : kvs.lookup name = none) (hC : ClsK c.K C) (hn : findIn c.K (.ref C) name = some (some (.ref f))) (hf : typeIn c.K (.ref f) = some (.type "function")) (hg : specialIn c.K (.ref f) "__get__" = some (some (.builtin "function.__get__")))
    (ht : takesIn c.K (.ref f) = some false) (hcp : copiedNames.contains name = false)
    (q : ∀ s', Ext fx ρ s.heap ρ s'.heap → RelS c fx ρ σ s' → VR ρ s'.heap (.meth (.top f) (.ref i)) (.ref s.heap.objs.size) → R (.ref s.heap.objs.size) s') : wpAny c.M A (getAttr (.ref x) name expr) R noE s := by
  obtain ⟨x', dx, es, n, h1, h2, h3, h4, h5, I⟩ := r.1.toHRel.inst e1 e2
  rw [hx] at h1; cases h1
  have X := r.1.ok.k.keeps r.1.keep
  have hfo : findObj c.K C (some (dictOf es n)) name = some (.bind (.builtin "function.__get__") (.ref f)) := by
    obtain ⟨cd, hc, hd⟩ := any_some hC.has
    unfold findObj
    have ho : PySem.W.ownOf cd (some (dictOf es n)) name = some none := by unfold PySem.W.ownOf; rw [if_pos hd]; show lookIn name (dictOf es n) = _; rw [lookIn_dict]; exact h5.miss e
    rw [hc, Option.bind_some, hn, Option.bind_some]
    simp only [hg, Option.bind_some, ht, ho, hcp, Bool.false_and, Bool.false_eq_true, if_false]
  refine get_bind X I hC.ga hfo hC.gat (wpAny_call (fn_get (s := { s with toks := s.toks + 1 }) X hf ?_))
  refine handed_on rfl (q _ (.push _) ⟨r.1.push _, r.2⟩ (.meth (Heap.get?_push_size _ rfl) (.top f) (.ref hx)))

theorem putL_len (name : Str) (hsh : Int) (key v : Value) : ∀ es : List DictEntry, (putL name hsh key v es).length ≤ es.length + 1
  | [] => by simp [putL]
  | e :: r => by
    have := putL_len name hsh key v r
    unfold putL; split <;> simp <;> omega
theorem osaV {x dx C : Addr} {es : List DictEntry} {n : Nat} {name : Str} {tk : Tok} {v : Value} {R : Result → Shared → Prop} (X : c.K.In s.heap) (hx : s.heap.get? x = some (instObj C dx)) (hd : s.heap.get? dx = some (dictOf es n))
    (hC : ClsK c.K C) (hn : takerIn c.K C name = some none) (hr : es.any (·.refKey) = false) (hz : es.length < 1000)
    (q : ∀ t, (s.heap.update dx (Obj.putName name (PyData.keyHash c.w.params name) (.str name t) v)).get? dx = some (dictOf (putL name (PyData.keyHash c.w.params name) (.str name t) v es) (putN name es n)) →
      R (.ok (.ret .none)) { s with heap := s.heap.update dx (Obj.putName name (PyData.keyHash c.w.params name) (.str name t) v), toks := s.toks + 1 }) :
    codeAny c.M A (.call (.builtin "object.__setattr__") ⟨[.ref x, .str name tk, v], []⟩) R s := by
  have I : InstAt s.heap x (instObj C dx) C (some (dictOf es n)) := ⟨hx, rfl, rfl, hd⟩
  refine osa_open X I hC.over hn fun b => ?_
  obtain ⟨cd, hc, hd'⟩ := any_some hC.has
  have D' : (s.heap.update dx (Obj.putName name (PyData.keyHash c.w.params name) (.str name s.toks) v)).get? dx = some (dictOf (putL name (PyData.keyHash c.w.params name) (.str name s.toks) v es) (putN name es n)) := by
    have := Heap.get?_update_self (Obj.putName name (PyData.keyHash c.w.params name) (.str name s.toks) v) hd (by rw [putName_dict]; rfl)
    rw [putName_dict] at this; exact this
  refine wpAny_bind (wpAny_pure (wpAny_bind (wpAny_bind (wpAny_loadPart hx (wpAny_bind ((looks_clsIn X hc).here ?_))))))
  rw [hd']
  refine wpAny_pure (a := some dx) (wpAny_bind (wpAny_pure (wpAny_bind ?_)))
  unfold nsSet
  refine wpAny_bind (wpAny_bind (wpAny_askSetting (wpAny_pure (wpAny_bind (wpAny_mkText (wpAny_bind (wpAny_loadPart hd ?_)))))))
  have cc : (!es.toArray.any (·.key.isStr name) && es.toArray.any (·.refKey)) = false := by
    have : es.toArray.any (·.refKey) = false := by simpa using hr
    rw [this, Bool.and_false]
  dsimp only
  rw [aRefKeyMayBeTheName_at, cc]
  refine wpAny_updatePart hd ?_
  have hz' := putL_len name (PyData.keyHash c.w.params name) (.str name s.toks) v es
  refine wpAny_bind (wpAny_lookBehind D' (pastItsLine_dict (by rw [List.size_toArray, sizeLine_eq]; omega)) ?_)
  exact wpAny_pure (q _ D')
theorem setAttrV {x : Addr} {i j : Nat} {C : Addr} {kvs : List (Str × V)} {name : Str} {v : V} {u : Value} {R : Unit → Shared → Prop} (r : RelS c fx ρ ⟨loc, hp⟩ s) (hx : ρ[i]? = some x) (e1 : hp[i]? = some (.inst C j)) (e2 : hp[j]? = some (.ns kvs))
    (hC : ClsK c.K C) (hn : findIn c.K (.ref C) name = some none) (hv : VR ρ s.heap v u) (hz : kvs.length < 1000)
    (q : ∀ s', Ext fx ρ s.heap ρ s'.heap → RelS c fx ρ ⟨loc, hp.set j (.ns (put name v kvs))⟩ s' → R () s') : wpAny c.M A (setAttr (.ref x) name u) R noE s := by
  obtain ⟨x', dx, es, n, h1, h2, h3, h4, h5, I⟩ := r.1.toHRel.inst e1 e2
  rw [hx] at h1; cases h1
  have X := r.1.ok.k.keeps r.1.keep
  have ht : takerIn c.K C name = some none := by unfold takerIn; rw [hn]; rfl
  refine set_plain X I hC.sa (osaV (s := { s with toks := s.toks + 1 }) X h3 h4 hC ht h5.noRef (by rw [← h5.length]; exact hz) fun t D => ?_)
  have hs : Keep [dx] s.heap (s.heap.update dx (Obj.putName name (PyData.keyHash c.w.params name) (.str name t) u)) := .of_sameBut (Heap.SameBut.update ..)
  have k : ImmKeep s.heap (s.heap.update dx (Obj.putName name (PyData.keyHash c.w.params name) (.str name t) u)) := r.1.toHRel.immKeep (hs.sub fun b m => by rw [List.mem_singleton] at m; subst m; exact mem_of_get? h2)
  exact q _ (.upd h2 hs) ⟨r.1.upd h2 hs D ⟨_, _, rfl, NsR.put (hv.mono (List.prefix_refl _) k) (h5.mono (List.prefix_refl _) k)⟩, r.2⟩

inductive AttrI (c : Cx) (attr : Str) (Q : V → St → Prop) (o : V) (σ₁ : St) : Prop
  | mk (i : Nat) (C : Addr) (j : Nat) (kvs : List (Str × V)) (v : V) (h0 : o = .ref i) (h1 : σ₁.hp[i]? = some (.inst C j)) (h2 : σ₁.hp[j]? = some (.ns kvs)) (h3 : kvs.lookup attr = some v) (h4 : ClsK c.K C)
    (h5 : findIn c.K (.ref C) attr = some none) (h6 : v.handed = true) (q : Q v σ₁) : AttrI c attr Q o σ₁
inductive AttrMI (c : Cx) (attr : Str) (Q : V → St → Prop) (o : V) (σ₁ : St) : Prop
  | mk (i : Nat) (C : Addr) (j : Nat) (kvs : List (Str × V)) (f : Addr) (h0 : o = .ref i) (h1 : σ₁.hp[i]? = some (.inst C j)) (h2 : σ₁.hp[j]? = some (.ns kvs)) (h3 : kvs.lookup attr = none) (h4 : ClsK c.K C)
    (h5 : findIn c.K (.ref C) attr = some (some (.ref f))) (h6 : typeIn c.K (.ref f) = some (.type "function")) (h7 : specialIn c.K (.ref f) "__get__" = some (some (.builtin "function.__get__"))) (h8 : takesIn c.K (.ref f) = some false)
    (h9 : copiedNames.contains attr = false) (q : Q (.meth (.top f) (.ref i)) σ₁) : AttrMI c attr Q o σ₁
inductive SetAI (c : Cx) (attr : Str) (v : V) (Q : St → Prop) (u : V) (σ₂ : St) : Prop
  | mk (i : Nat) (C : Addr) (j : Nat) (kvs : List (Str × V)) (h0 : u = .ref i) (h1 : σ₂.hp[i]? = some (.inst C j)) (h2 : σ₂.hp[j]? = some (.ns kvs)) (h3 : ClsK c.K C) (h4 : findIn c.K (.ref C) attr = some none) (h5 : kvs.length < 1000)
    (q : Q ⟨σ₂.loc, σ₂.hp.set j (.ns (put attr v kvs))⟩) : SetAI c attr v Q u σ₂
inductive SetBI (c : Cx) (attr : Str) (i j : Nat) (Q : St → Prop) (w : V) (σ₃ : St) : Prop
  | mk (C' : Addr) (kvs' : List (Str × V)) (h1 : σ₃.hp[i]? = some (.inst C' j)) (h2 : σ₃.hp[j]? = some (.ns kvs')) (h3 : ClsK c.K C') (h4 : findIn c.K (.ref C') attr = some none) (h5 : kvs'.length < 1000)
    (q : Q ⟨σ₃.loc, σ₃.hp.set j (.ns (put attr w kvs'))⟩) : SetBI c attr i j Q w σ₃
inductive AugAI (c : Cx) (attr : Str) (Q : Nat → Nat → V → St → Prop) (u : V) (σ₁ : St) : Prop
  | mk (i : Nat) (C : Addr) (j : Nat) (kvs : List (Str × V)) (v₀ : V) (h0 : u = .ref i) (h1 : σ₁.hp[i]? = some (.inst C j)) (h2 : σ₁.hp[j]? = some (.ns kvs)) (h3 : ClsK c.K C) (h4 : findIn c.K (.ref C) attr = some none)
    (h5 : kvs.lookup attr = some v₀) (h6 : v₀.handed = true) (q : Q i j v₀ σ₁) : AugAI c attr Q u σ₁
theorem EV.attr {value : Expr} {attr : Str} {pos : Pos} (h : EV c d fx (eval value fx.env) σ (AttrI c attr Q))
    (he : eval (.Attribute value attr pos) fx.env = (do
      let o ← eval value fx.env
      standAt pos.atName
      let r ← holding [o] (getAttr o attr true)
      letTemporaryGo value o r
      pure r) := by with_unfolding_all rfl) : EV c d fx (eval (.Attribute value attr pos) fx.env) σ Q := fun ρ s A R r => by
  refine Attribute_any_ (wpAny_mono (h ρ s A R r) ?_ fun _ _ e => e) he
  rintro x s₁ ⟨ρ₁, _, σ₁, p₁, e₁, r₁, v₁, i, C, j, kvs, v, rfl, h1, h2, h3, h4, h5, h6, q⟩
  cases v₁ using VR.refC with
  | ref hx => exact getAttrV r₁ hx h1 h2 h3 h4 h5 h6 fun u hu => ⟨ρ₁, v, σ₁, p₁, e₁, r₁, hu, q⟩
theorem EV.attrM {value : Expr} {attr : Str} {pos : Pos} (h : EV c d fx (eval value fx.env) σ (AttrMI c attr Q))
    (he : eval (.Attribute value attr pos) fx.env = (do
      let o ← eval value fx.env
      standAt pos.atName
      let r ← holding [o] (getAttr o attr true)
      letTemporaryGo value o r
      pure r) := by with_unfolding_all rfl) : EV c d fx (eval (.Attribute value attr pos) fx.env) σ Q := fun ρ s A R r => by
  refine Attribute_any_ (wpAny_mono (h ρ s A R r) ?_ fun _ _ e => e) he
  rintro x s₁ ⟨ρ₁, _, σ₁, p₁, e₁, r₁, v₁, i, C, j, kvs, f, rfl, h1, h2, h3, h4, h5, h6, h7, h8, h9, q⟩
  cases v₁ using VR.refC with
  | ref hx => exact getMethV r₁ hx h1 h2 h3 h4 h5 h6 h7 h8 h9 fun s' e' r' hv => ⟨ρ₁, _, σ₁, p₁, e₁.trans e' r₁.1.hasL, r', hv, q⟩
theorem XV.setattr {o : Expr} {attr : Str} {pos' : Pos} {value : Expr} {pos : Pos}
    (h : EV c d fx (eval value fx.env) σ (fun v σ₁ => EV c d fx (eval o fx.env) σ₁ (SetAI c attr v (X .next))))
    (hs : swapsWith value (some (.Attribute o attr pos')) pos.line fx.env = pure false := by rfl) : XV c d fx (exec (.Assign [.Attribute o attr pos'] value pos) fx.env) σ X := fun ρ s A R r => by
  refine plainObj_wpAny_Assign_Attribute (wpAny_mono (h ρ s A R r) ?_ fun _ _ e => e) hs
  rintro x s₁ ⟨ρ₁, v, σ₁, p₁, e₁, r₁, v₁, h₁⟩
  refine wpAny_mono (h₁ ρ₁ s₁ A R r₁) ?_ fun _ _ e => e
  rintro y s₂ ⟨ρ₂, _, ⟨loc₂, hp₂⟩, p₂, e₂, r₂, v₂, i, C, j, kvs, rfl, h1, h2, h3, h4, h5, q⟩
  cases v₂ using VR.refC with
  | ref hx => exact setAttrV r₂ hx h1 h2 h3 h4 (v₁.mono p₂ (r₁.1.immKeep e₂.keep)) h5 fun s' e' r' => ⟨ρ₂, .next, _, (e₁.trans e₂ r₁.1.hasL).trans e' r₂.1.hasL, r', .next, q⟩
theorem XV.augattr {o : Expr} {attr : Str} {tpos : Pos} {op : Operator} {value : Expr} {pos : Pos}
    (h : EV c d fx (eval o fx.env) σ (AugAI c attr fun i j v₀ σ₁ =>
      EV c d fx (eval value fx.env) σ₁ (fun v σ₂ => OV2 c d fx (inplaceOp op) v₀ v σ₂ (SetBI c attr i j (X .next))))) :
    XV c d fx (exec (.AugAssign (.Attribute o attr tpos) op value pos) fx.env) σ X := fun ρ s A R r => by
  refine wpAny_AugAssign_AttributeAny (wpAny_mono (h ρ s A R r) ?_ fun _ _ e => e)
  rintro x s₁ ⟨ρ₁, _, σ₁, p₁, e₁, r₁, v₁, i, C, j, kvs, v₀, rfl, h1, h2, h3, h4, h5, h6, h₁⟩
  cases v₁ using VR.refC with
  | ref hx =>
    refine getAttrV r₁ hx h1 h2 h5 h3 h4 h6 fun u hu => ?_
    refine wpAny_mono (h₁ ρ₁ { s₁ with toks := s₁.toks + 1 } A R r₁) ?_ fun _ _ e => e
    rintro y s₂ ⟨ρ₂, v, σ₂, p₂, e₂, r₂, v₂, h₂⟩
    refine wpAny_mono (h₂ ρ₂ s₂ A u y R r₂ (hu.mono p₂ (r₁.1.immKeep e₂.keep)) v₂) ?_ fun _ _ e => e
    rintro z s₃ ⟨ρ₃, w, ⟨loc₃, hp₃⟩, p₃, e₃, r₃, v₃, C', kvs', g1, g2, g3, g4, g5, q⟩
    exact setAttrV r₃ (pre_get p₃ (pre_get p₂ hx)) g1 g2 g3 g4 v₃ g5 fun s' e' r' => ⟨ρ₃, .next, _, ((e₁.trans e₂ r₁.1.hasL).trans e₃ r₂.1.hasL).trans e' r₃.1.hasL, r', .next, q⟩
end
end Mine
namespace Mine
open PySem PySem.W PyProof.Rows

section
variable {c : Cx} {d k : Nat} {fx : Fx} {ρ ρ' ρ'' : List Addr} {σ σ' : St} {h h' h'' : Heap} {s s' s₁ : Shared} {A : Around} {Q : V → List O → Prop} {X : Fl → St → Prop}
  {loc : List (Str × V)} {hp hp' : List O}

theorem lookup_snoc {α : Type} {x n : Str} {a : α} {l : List (Str × α)} : (l ++ [(n, a)]).lookup x = (l.lookup x).or (if x == n then some a else none) := by
  rw [List.lookup_append, List.lookup_cons]
  cases l.lookup x <;> cases x == n <;> rfl
theorem lookup_none_of {α : Type} {x : Str} : ∀ {l : List (Str × α)}, x ∉ l.map (·.1) → l.lookup x = none
  | [], _ => rfl
  | (n, a) :: r, h => by
    rw [List.lookup_cons]
    have : (x == n) = false := by
      cases q : x == n with
      | false => rfl
      | true => exact absurd (beq_iff_eq.mp q ▸ .head _) h
    rw [this]; exact lookup_none_of fun m => h (.tail _ m)
theorem lookup_rev {α : Type} {x : Str} : ∀ {l : List (Str × α)}, (l.map (·.1)).Nodup → l.reverse.lookup x = l.lookup x
  | [], _ => rfl
  | (n, a) :: r, h => by
    rw [List.map_cons, List.nodup_cons] at h
    rw [List.reverse_cons, lookup_snoc, lookup_rev h.2, List.lookup_cons]
    cases hb : x == n with
    | true =>
      rw [lookup_none_of (by rw [beq_iff_eq.mp hb]; exact h.1)]; rfl
    | false => simp
theorem zip_keys {α : Type} : ∀ {ns : List Str} {xs : List α}, ns.length = xs.length → (ns.zip xs).map (·.1) = ns
  | [], [], _ => rfl
  | n :: ns, x :: xs, e => by simp only [List.zip_cons_cons, List.map_cons, zip_keys (Nat.succ.inj e)]
theorem VRs.zipLook {ρ : List Addr} {h : Heap} {x : Str} {v : V} : ∀ {ns : List Str} {vs : List V} {xs : List Value}, VRs ρ h vs xs → (ns.zip vs).lookup x = some v → ∃ u, (ns.zip xs).lookup x = some u ∧ VR ρ h v u
  | [], _, _, _, e => by cases e
  | n :: ns, _, _, .nil, e => by cases e
  | n :: ns, _, _, .cons a b, e => by
    rw [List.zip_cons_cons, List.lookup_cons] at e ⊢
    cases hb : x == n with
    | true => rw [hb] at e; cases e; exact ⟨_, rfl, a⟩
    | false => rw [hb] at e; exact b.zipLook e
theorem VRs.zipNone {ρ : List Addr} {h : Heap} {x : Str} : ∀ {ns : List Str} {vs : List V} {xs : List Value}, VRs ρ h vs xs → (ns.zip vs).lookup x = none → (ns.zip xs).lookup x = none
  | [], _, _, _, e => rfl
  | n :: ns, _, _, .nil, e => rfl
  | n :: ns, _, _, .cons a b, e => by
    rw [List.zip_cons_cons, List.lookup_cons] at e ⊢
    cases hb : x == n with
    | true => rw [hb] at e; cases e
    | false => rw [hb] at e; exact b.zipNone e

noncomputable abbrev retQ (Q : V → List O → Prop) : Fl → St → Prop := fun fl σ => match fl with | .ret v => Q v σ.hp | .next => Q .none σ.hp | _ => False
theorem Rel.enter {env : Env} {cl : List (Str × Nat)} {ns : List Str} {vs : List V} {xs : List Value} (ok : c.Ok) (r : HRel c ρ hp h) (hL : env.locals = h.objs.size) (hg : env.globals = mainGlobals) (hb : env.builtins = builtinsNs) (hk : env.scope.kind = .function)
    (hc : ClR ρ cl env.cells) (va : VRs ρ h vs xs) (hl : ns.length = vs.length) (hnd : ns.Nodup) (hn : h'.Ns env.locals (fun x => (ns.zip xs).reverse.lookup x)) (hkeep : ∀ b o, h.get? b = some o → h'.get? b = some o) :
    Rel c ⟨env, cl, ρ⟩ ρ ⟨ns.zip vs, hp⟩ h' :=
  { toHRel := r.ext hkeep, ok := ok,
    loc := ⟨_, hn, fun x v e => by
      obtain ⟨u, h1, h2⟩ := va.zipLook e
      refine ⟨u, ?_, h2.mono (List.prefix_refl _) fun _ _ _ e => hkeep _ _ e⟩
      rw [lookup_rev (by rw [zip_keys (hl.trans va.length)]; exact hnd)]; exact h1⟩
    lfresh := by show c.H₀.get? env.locals = none; rw [hL]; exact r.size₀ (Nat.le_refl _)
    lapart := fun m => by
      have := r.lt m
      rw [show (⟨env, cl, ρ⟩ : Fx).env.locals = h.objs.size from hL] at this
      exact Nat.lt_irrefl _ this
    pre := List.prefix_refl _, glob := hg, bltn := hb, kind := hk, cells := hc }

noncomputable def flV : Flow → Value
  | .ret v => v
  | _ => .none
theorem FPost.of {env : Env} {cl : List (Str × Nat)} {x : Flow} {s₀ s : Shared} (hk : ∀ b o, s₀.heap.get? b = some o → s.heap.get? b = some o) (hL : s₀.heap.get? env.locals = none)
    (h : PostX c ⟨env, cl, ρ⟩ ρ s (retQ Q) x s') : FPost c ρ s₀ Q (.ok (.ret (flV x))) s' := by
  obtain ⟨ρ', f, σ', e, r, hf, q⟩ := h
  have fe : FExt ρ s₀.heap ρ' s'.heap := by
    refine ⟨r.1.pre, fun a m => ?_, fun b o n z => e.keep b o (fun m => ?_) (hk b o z)⟩
    · rcases e.new a m with m | z
      · exact .inl m
      · right
        cases y : s₀.heap.get? a with
        | none => rfl
        | some o => rw [hk _ _ y] at z; cases z
    · rcases List.mem_cons.mp m with rfl | m
      · rw [z] at hL; cases hL
      · exact n m
  cases hf with
  | next => exact ⟨ρ', .none, σ'.hp, .none, rfl, fe, ⟨r.1.toHRel, r.2⟩, .none, q⟩
  | brk => exact q.elim
  | cont => exact q.elim
  | ret hv => exact ⟨ρ', _, σ'.hp, _, rfl, fe, ⟨r.1.toHRel, r.2⟩, hv, q⟩

theorem FV.def {a : Addr} {name qual : Str} {params : Arguments} {body : List Stmt} {scope : Scope} {dV kV doc pm cd ct oc : Value} {an od : Option Addr} {osl : Array (Option Value)} {ns : List Str} {vs : List V}
    (hK : c.K.lookup a = some ⟨oc, od, .func (fnX name qual params body scope [] dV kV doc pm an cd ct), osl⟩) (hcd : codeIn c.K cd qual = true)
    (hb : ∀ xs : List Value, ns.length = xs.length → bindArgs (fnX name qual params body scope [] dV kV doc pm an cd ct) ⟨xs, []⟩ = pure (ns.zip xs)) (hl : ns.length = vs.length) (hnd : ns.Nodup)
    (hloc : ∀ n ∈ ns, scope.names.lookup n = some .local) (hcell : ∀ x ∈ scope.names, x.2 ≠ .cell)
    (h : ∀ L ρ₀, ρ₀.length = hp.length → XV c k ⟨envX qual scope L a cd [], [], ρ₀⟩ (execs body (envX qual scope L a cd [])) ⟨ns.zip vs, hp⟩ (retQ Q))
    (hco : scope.isCoroutine = false := by rfl) (hgen : scope.isGenerator = false := by rfl) (hk : scope.kind = .function := by rfl) :
    FV c (k + 1) (.top a) vs hp Q := fun ρ s A x xs R ok r vf va => by
  cases vf using VR.topC
  have X := ok.k.keeps r.1.keep
  refine codeAny_call_def (fd := fnX name qual params body scope [] dV kV doc pm an cd ct) R.limit (X _ _ hK) rfl (ok.t.nolimit.keeps r.1.keep) (codeRec_of X hcd) rfl (.of_eq (hb xs (hl.trans va.length))) hcell (fun y hy => hloc _ ?_) (fun h₁ hn hk₁ => ?_) hco hgen hk
  · obtain ⟨n, v⟩ := y
    exact (List.of_mem_zip hy).1
  · have hw := h s.heap.objs.size ρ r.1.len ρ { s with heap := h₁, toks := s.toks + (ns.zip xs).length } (A.deeper (envX qual scope s.heap.objs.size a cd [])) (R.deeper _)
      ⟨Rel.enter (env := envX qual scope s.heap.objs.size a cd []) ok r.1 rfl rfl rfl hk trivial va hl hnd hn hk₁, r.2⟩
    refine wpAny_mono hw (fun fl s' z => ?_) fun _ _ z => z.elim
    have := FPost.of (env := envX qual scope s.heap.objs.size a cd []) (cl := []) hk₁ (get_none_of_lt (Nat.le_refl _)) z
    cases fl <;> exact this
theorem FV.clo {i : Nat} {f : FnLit} {cl : List (Str × Nat)} {ns : List Str} {vs : List V} (ho : hp[i]? = some (.fn f cl))
    (hb : ∀ clos doc pm cd ct, ∀ xs : List Value, ns.length = xs.length → bindArgs (fnX f.name f.qual f.params f.body f.scope clos .none .none doc pm none cd ct) ⟨xs, []⟩ = pure (ns.zip xs)) (hl : ns.length = vs.length) (hnd : ns.Nodup)
    (hloc : ∀ n ∈ ns, f.scope.names.lookup n = some .local) (hcell : ∀ x ∈ f.scope.names, x.2 ≠ .cell)
    (h : ∀ L a cd cells ρ₀, ρ₀.length = hp.length → XV c k ⟨envX f.qual f.scope L a cd cells, cl, ρ₀⟩ (execs f.body (envX f.qual f.scope L a cd cells)) ⟨ns.zip vs, hp⟩ (retQ Q))
    (hco : f.scope.isCoroutine = false := by rfl) (hgen : f.scope.isGenerator = false := by rfl) (hk : f.scope.kind = .function := by rfl) :
    FV c (k + 1) (.ref i) vs hp Q := fun ρ s A x xs R ok r vf va => by
  cases vf using VR.refC with
  | ref hi =>
    rename_i a
    obtain ⟨x, h1, clos, doc, pm, cc, ctv, rfl, hcl, hcr⟩ := r.1.obj i a _ hi ho
    refine codeAny_call_def (fd := fnX f.name f.qual f.params f.body f.scope clos .none .none doc pm none (.ref cc) ctv) R.limit h1 rfl (ok.t.nolimit.keeps r.1.keep) hcr.rec_ rfl (.of_eq (hb _ _ _ _ _ xs (hl.trans va.length))) hcell (fun y hy => hloc _ ?_) (fun h₁ hn hk₁ => ?_) hco hgen hk
    · obtain ⟨n, v⟩ := y
      exact (List.of_mem_zip hy).1
    · have hw := h s.heap.objs.size a (.ref cc) clos ρ r.1.len ρ { s with heap := h₁, toks := s.toks + (ns.zip xs).length } (A.deeper (envX f.qual f.scope s.heap.objs.size a (.ref cc) clos)) (R.deeper _)
        ⟨Rel.enter (env := envX f.qual f.scope s.heap.objs.size a (.ref cc) clos) ok r.1 rfl rfl rfl hk hcl va hl hnd hn hk₁, r.2⟩
      refine wpAny_mono hw (fun fl s' z => ?_) fun _ _ z => z.elim
      have := FPost.of (env := envX f.qual f.scope s.heap.objs.size a (.ref cc) clos) (cl := cl) hk₁ (get_none_of_lt (Nat.le_refl _)) z
      cases fl <;> exact this
theorem FV.meth {f self : V} {vs : List V} (h : FV c k f (self :: vs) hp Q) : FV c k (.meth f self) vs hp Q := fun ρ s A x xs R ok r vf va => by
  cases vf using VR.methC with
  | meth ho hf hs => exact method_call ho (h ρ s A _ _ R ok r hf (.cons hs va))

theorem cellsFrom_shift (k : Nat) : ∀ (names : List (Str × NameKind)) (n : Nat) (acc : List (Str × Addr)), cellsFrom (k + n) names (acc.map fun p => (p.1, k + p.2)) = (cellsFrom n names acc).map fun p => (p.1, k + p.2)
  | [], _, _ => rfl
  | (nm, kd) :: r, n, acc => by
    unfold cellsFrom
    split
    · have := cellsFrom_shift k r (n + 1) ((nm, n) :: acc)
      rw [List.map_cons] at this
      exact this
    · exact cellsFrom_shift k r n acc
theorem bindC_eq {kindOf : Str → Option NameKind} {x : Str} (hx : kindOf x ≠ some .local) : ∀ {l : List (Str × Value)} {m : Str → Option Value}, (l.map (·.1)).Nodup → bindC kindOf l m x = (l.lookup x).or (m x)
  | [], _, _ => by simp [bindC]
  | (n, v) :: r, m, hnd => by
    rw [List.map_cons, List.nodup_cons] at hnd
    unfold bindC
    rw [bindC_eq hx hnd.2, List.lookup_cons]
    cases hb : x == n with
    | true =>
      have hh := beq_iff_eq.mp hb; subst hh
      rw [lookup_none_of hnd.1]; simp [hx]
    | false =>
      have hne : x ≠ n := fun e => by rw [e] at hb; simp at hb
      split <;> simp [hne]
theorem bindL_eq {kindOf : Str → Option NameKind} {x : Str} (hx : kindOf x = some .local) : ∀ {l : List (Str × Value)} {m : Str → Option Value}, (l.map (·.1)).Nodup → bindL kindOf l m x = (l.lookup x).or (m x)
  | [], _, _ => by simp [bindL]
  | (n, v) :: r, m, hnd => by
    rw [List.map_cons, List.nodup_cons] at hnd
    unfold bindL
    rw [bindL_eq hx hnd.2, List.lookup_cons]
    cases hb : x == n with
    | true =>
      have hh := beq_iff_eq.mp hb; subst hh
      rw [lookup_none_of hnd.1]; simp [hx]
    | false =>
      have hne : x ≠ n := fun e => by rw [e] at hb; simp at hb
      split <;> simp [hne]
noncomputable def clOf (n : Nat) (cs : List Str) : List (Str × Nat) := (cs.zipIdx.reverse).map fun p => (p.1, n + p.2)
theorem clR_of {ρ : List Addr} : ∀ {l : List (Str × Nat)} {f : Nat → Nat} {g : Nat → Addr}, (∀ p ∈ l, ρ[f p.2]? = some (g p.2)) → ClR ρ (l.map fun p => (p.1, f p.2)) (l.map fun p => (p.1, g p.2))
  | [], _, _, _ => trivial
  | (n, i) :: r, f, g, h => ⟨rfl, h _ (.head _), clR_of fun p m => h p (.tail _ m)⟩
theorem filter_lookup {α : Type} {p : Str → Bool} {x : Str} : ∀ {l : List (Str × α)} {v : α}, (l.filter fun q => p q.1).lookup x = some v → p x = true ∧ l.lookup x = some v
  | [], _, e => by cases e
  | (n, a) :: r, v, e => by
    rw [List.filter_cons] at e
    cases hp : p n with
    | true =>
      simp only [hp, if_true] at e
      rw [List.lookup_cons] at e ⊢
      cases hb : x == n with
      | true => rw [hb] at e; cases e; exact ⟨by rw [beq_iff_eq.mp hb]; exact hp, rfl⟩
      | false => rw [hb] at e; exact filter_lookup e
    | false =>
      simp only [hp, Bool.false_eq_true, if_false] at e
      obtain ⟨h1, h2⟩ := filter_lookup e
      refine ⟨h1, ?_⟩
      rw [List.lookup_cons]
      have : (x == n) = false := by
        cases q : x == n with
        | false => rfl
        | true => rw [beq_iff_eq.mp q, hp] at h1; cases h1
      rw [this]; exact h2

theorem FV.defC {a : Addr} {name qual : Str} {params : Arguments} {body : List Stmt} {scope : Scope} {dV kV doc pm cd ct oc : Value} {an od : Option Addr} {osl : Array (Option Value)} {ns : List Str} {vs : List V} {cs : List Str}
    (hK : c.K.lookup a = some ⟨oc, od, .func (fnX name qual params body scope [] dV kV doc pm an cd ct), osl⟩) (hcd : codeIn c.K cd qual = true)
    (hb : ∀ xs : List Value, ns.length = xs.length → bindArgs (fnX name qual params body scope [] dV kV doc pm an cd ct) ⟨xs, []⟩ = pure (ns.zip xs)) (hl : ns.length = vs.length) (hnd : ns.Nodup)
    (hcs : cellsFrom 0 scope.names [] = cs.zipIdx.reverse) (hcn : cs.Nodup) (hkn : ∀ n ∈ cs, scope.names.lookup n = some .cell) (hloc : ∀ n ∈ ns, scope.names.lookup n = some .local ∨ n ∈ cs)
    (h : ∀ L cells ρ₀, ρ₀.length = hp.length + cs.length → XV c k ⟨envX qual scope L a cd cells, clOf hp.length cs, ρ₀⟩ (execs body (envX qual scope L a cd cells))
      ⟨(ns.zip vs).filter (fun p => scope.names.lookup p.1 == some .local), hp ++ cs.map fun n => .cell ((ns.zip vs).lookup n)⟩ (retQ Q))
    (hco : scope.isCoroutine = false := by rfl) (hgen : scope.isGenerator = false := by rfl) (hk : scope.kind = .function := by rfl) :
    FV c (k + 1) (.top a) vs hp Q := fun ρ s A x xs R ok r vf va => by
  cases vf using VR.topC
  have X := ok.k.keeps r.1.keep
  have hkeys : (ns.zip xs).map (·.1) = ns := zip_keys (hl.trans va.length)
  have hcf : ∀ L, cellsFrom (L + 1) scope.names [] = (cs.zipIdx.reverse).map fun p => (p.1, L + 1 + p.2) := fun L => by
    have := cellsFrom_shift (L + 1) scope.names 0 []
    rw [List.map_nil, Nat.add_zero, hcs] at this; exact this
  have hmem : ∀ n ∈ cs, ∀ L, ∃ i, cs[i]? = some n ∧ (cellsFrom (L + 1) scope.names []).lookup n = some (L + 1 + i) := fun n hn L => by
    obtain ⟨i, hi, rfl⟩ := List.getElem_of_mem hn
    refine ⟨i, List.getElem?_eq_getElem hi, ?_⟩
    rw [hcf]
    have hnd' : (((cs.zipIdx.reverse).map fun p => (p.1, L + 1 + p.2)).map (·.1)).Nodup := by
      rw [List.map_map]
      have : ((fun p : Str × Nat => p.1) ∘ fun p : Str × Nat => (p.1, L + 1 + p.2)) = fun p => p.1 := rfl
      show ((cs.zipIdx.reverse).map fun p => p.1).Nodup
      rw [List.map_reverse, List.zipIdx_map_fst]
      exact List.pairwise_reverse.mpr (hcn.imp fun h e => h e.symm)
    exact lookup_of_mem_nodup hnd' (List.mem_map.mpr ⟨(cs[i], i), by rw [List.mem_reverse, List.mem_zipIdx_iff_getElem?]; exact List.getElem?_eq_getElem hi, rfl⟩)
  refine codeAny_call_function (fd := fnX name qual params body scope [] dV kV doc pm an cd ct) R.limit (X _ _ hK) rfl hco hgen rfl (codeRec_of X hcd) ((BindsTo.of_eq (hb xs (hl.trans va.length))) _ _ _ _ ?_)
  refine wpAny_newFunctionEnv_cells hk (fun y hy => ?_) fun env' he s' x => ?_
  · obtain ⟨n, v⟩ := y
    rcases hloc n (List.of_mem_zip hy).1 with q | q
    · exact .inl q
    · obtain ⟨i, _, e⟩ := hmem n q s.heap.objs.size
      exact .inr ⟨hkn n q, by show Option.isSome (List.lookup n _) = true; rw [e]; rfl⟩
  subst he
  refine ⟨(ok.t.nolimit.keeps r.1.keep).keeps x.toInCall.keep, codeAny_func ?_⟩
  obtain ⟨h₁, tk, rfl, hk₁⟩ := x.done
  have hρ : ∀ i, i < cs.length → (ρ ++ (List.range cs.length).map fun i => s.heap.objs.size + 1 + i)[hp.length + i]? = some (s.heap.objs.size + 1 + i) := fun i hi => by
    rw [← r.1.len, List.getElem?_append_right (Nat.le_add_right ..), Nat.add_sub_cancel_left, List.getElem?_map, List.getElem?_range hi]; rfl
  have pr : ρ <+: ρ ++ (List.range cs.length).map fun i => s.heap.objs.size + 1 + i := List.prefix_append ..
  have kk : ImmKeep s.heap h₁ := fun _ _ _ e => hk₁ _ _ e
  have vlook : ∀ n ∈ cs, (match (ns.zip vs).lookup n, (bindC (newEnv scope s.heap.objs.size mainGlobals (cellsFrom (s.heap.objs.size + 1) scope.names []) (qual ++ ".<locals>.") (some a) cd none builtinsNs).kindOf (ns.zip xs) (fun _ => none)) n with
      | some v, some u => VR ρ s.heap v u | none, none => True | _, _ => False) := fun n hn => by
    have hkl : (newEnv scope s.heap.objs.size mainGlobals (cellsFrom (s.heap.objs.size + 1) scope.names []) (qual ++ ".<locals>.") (some a) cd none builtinsNs).kindOf n ≠ some .local := by
      show scope.names.lookup n ≠ _
      rw [hkn n hn]; intro q; cases q
    rw [bindC_eq hkl (by rw [hkeys]; exact hnd)]
    cases q : (ns.zip vs).lookup n with
    | none => rw [va.zipNone q]; trivial
    | some v => obtain ⟨u, h1, h2⟩ := va.zipLook q; rw [h1]; exact h2
  have HR : HRel c (ρ ++ (List.range cs.length).map fun i => s.heap.objs.size + 1 + i) (hp ++ cs.map fun n => .cell ((ns.zip vs).lookup n)) h₁ := by
    refine ⟨fun b o e => hk₁ b o (r.1.keep b o e), by simp [r.1.len], ?_, fun b m => ?_, fun i b o e1 e2 => ?_⟩
    · rw [List.nodup_append]
      refine ⟨r.1.nodup, ?_, fun b hb b' hb' e => ?_⟩
      · exact List.pairwise_map.mpr (List.nodup_range.imp fun h e => h (Nat.add_left_cancel e))
      · obtain ⟨i, _, rfl⟩ := List.mem_map.mp hb'
        have z' : s.heap.objs.size + 1 + i < s.heap.objs.size := e ▸ r.1.lt hb
        omega
    · rcases List.mem_append.mp m with m | m
      · exact r.1.fresh b m
      · obtain ⟨i, _, rfl⟩ := List.mem_map.mp m
        exact r.1.size₀ (by omega)
    · by_cases hi : i < ρ.length
      · rw [List.getElem?_append_left hi] at e1
        rw [List.getElem?_append_left (by rw [← r.1.len]; exact hi)] at e2
        obtain ⟨y, h1, h2⟩ := r.1.obj i b o e1 e2
        exact ⟨y, hk₁ _ _ h1, h2.mono pr kk⟩
      · have hi' := Nat.le_of_not_lt hi
        rw [List.getElem?_append_right hi'] at e1
        rw [List.getElem?_append_right (by rw [← r.1.len]; exact hi'), ← r.1.len] at e2
        rw [List.getElem?_map] at e1 e2
        cases q : cs[i - ρ.length]? with
        | none => rw [q] at e2; cases e2
        | some n =>
          rw [q] at e2; cases e2
          have hlt := (List.getElem?_eq_some_iff.mp q).1
          rw [List.getElem?_range hlt] at e1; cases e1
          have hn := List.mem_of_getElem? q
          obtain ⟨j, hj, e⟩ := hmem n hn s.heap.objs.size
          have : j = i - ρ.length := by
            have q2 := List.pairwise_iff_getElem.mp hcn
            obtain ⟨l1, e1⟩ := List.getElem?_eq_some_iff.mp hj
            obtain ⟨l2, e2⟩ := List.getElem?_eq_some_iff.mp q
            rcases Nat.lt_trichotomy j (i - ρ.length) with hl | hl | hl
            · exact absurd (e1.trans e2.symm) (q2 _ _ l1 l2 hl)
            · exact hl
            · exact absurd (e2.trans e1.symm) (q2 _ _ l2 l1 hl)
          subst this
          obtain ⟨oc', h1, h2⟩ := x.cell n _ e
          refine ⟨oc', h1, _, h2, ?_⟩
          have vl := vlook n hn
          revert vl
          cases (ns.zip vs).lookup n <;> cases (bindC (newEnv scope s.heap.objs.size mainGlobals (cellsFrom (s.heap.objs.size + 1) scope.names []) (qual ++ ".<locals>.") (some a) cd none builtinsNs).kindOf (ns.zip xs) (fun _ => none)) n <;> intro vl <;>
            first | exact vl | exact vl.elim | exact vl.mono pr kk
  have RR : Rel c ⟨envX qual scope s.heap.objs.size a cd (cellsFrom (s.heap.objs.size + 1) scope.names []), clOf hp.length cs, ρ ++ (List.range cs.length).map fun i => s.heap.objs.size + 1 + i⟩
      (ρ ++ (List.range cs.length).map fun i => s.heap.objs.size + 1 + i) ⟨(ns.zip vs).filter (fun p => scope.names.lookup p.1 == some .local), hp ++ cs.map fun n => .cell ((ns.zip vs).lookup n)⟩ h₁ :=
    { toHRel := HR, ok := ok
      loc := ⟨_, x.toInCall.ns, fun y v e => by
        obtain ⟨e1, e2⟩ := filter_lookup (p := fun n => scope.names.lookup n == some .local) e
        obtain ⟨u, h1, h2⟩ := va.zipLook e2
        refine ⟨u, ?_, h2.mono pr kk⟩
        rw [bindL_eq (by exact beq_iff_eq.mp e1) (by rw [hkeys]; exact hnd), h1]; rfl⟩
      lfresh := r.1.size₀ (Nat.le_refl _)
      lapart := fun m => by
        rcases List.mem_append.mp m with m | m
        · exact Nat.lt_irrefl _ (r.1.lt m)
        · obtain ⟨i, _, e⟩ := List.mem_map.mp m
          have e' : s.heap.objs.size + 1 + i = s.heap.objs.size := e
          omega
      pre := List.prefix_refl _, glob := rfl, bltn := rfl, kind := hk
      cells := by
        show ClR _ (clOf hp.length cs) (cellsFrom (s.heap.objs.size + 1) scope.names [])
        rw [hcf]
        exact clR_of (f := fun i => hp.length + i) (g := fun i => s.heap.objs.size + 1 + i) fun p hp' => by
          rw [List.mem_reverse, List.mem_zipIdx_iff_getElem?] at hp'
          exact hρ p.2 (List.getElem?_eq_some_iff.mp hp').1 }
  have hw := h s.heap.objs.size (cellsFrom (s.heap.objs.size + 1) scope.names []) (ρ ++ (List.range cs.length).map fun i => s.heap.objs.size + 1 + i) (by simp [r.1.len])
    (ρ ++ (List.range cs.length).map fun i => s.heap.objs.size + 1 + i) { s with heap := h₁, toks := tk } (A.deeper (envX qual scope s.heap.objs.size a cd (cellsFrom (s.heap.objs.size + 1) scope.names []))) (R.deeper _) ⟨RR, r.2⟩
  refine wpAny_mono hw (fun fl s' z => ?_) fun _ _ z => z.elim
  obtain ⟨ρ', f, σ', e, r', hf, q⟩ := z
  have fe : FExt ρ s.heap ρ' s'.heap := by
    refine ⟨pr.trans r'.1.pre, fun a m => ?_, fun b o n z => e.keep b o (fun m => ?_) (hk₁ b o z)⟩
    · rcases e.new a m with m | z
      · rcases List.mem_append.mp m with m | m
        · exact .inl m
        · obtain ⟨i, _, rfl⟩ := List.mem_map.mp m
          exact .inr (get_none_of_lt (by omega))
      · right
        cases y : s.heap.get? a with
        | none => rfl
        | some o => have := hk₁ _ _ y; rw [show h₁.get? a = none from z] at this; cases this
    · rcases List.mem_cons.mp m with rfl | m
      · exact absurd (Heap.lt_size z) (Nat.lt_irrefl _)
      · rcases List.mem_append.mp m with m | m
        · exact n m
        · obtain ⟨i, _, rfl⟩ := List.mem_map.mp m
          have z' : s.heap.objs.size + 1 + i < s.heap.objs.size := Heap.lt_size z
          omega
  cases hf with
  | next => exact ⟨ρ', .none, σ'.hp, .none, rfl, fe, ⟨r'.1.toHRel, r'.2⟩, .none, q⟩
  | brk => exact q.elim
  | cont => exact q.elim
  | ret hv => exact ⟨ρ', _, σ'.hp, _, rfl, fe, ⟨r'.1.toHRel, r'.2⟩, hv, q⟩
end
theorem len1 {α β : Type} {n : α} {xs : List β} (h : [n].length = xs.length) : ∃ x, xs = [x] := by
  cases xs with
  | nil => cases h
  | cons x r => cases r with
    | nil => exact ⟨x, rfl⟩
    | cons _ _ => cases h
theorem len2 {α β : Type} {n m : α} {xs : List β} (h : [n, m].length = xs.length) : ∃ x y, xs = [x, y] := by
  cases xs with
  | nil => cases h
  | cons x r => obtain ⟨y, rfl⟩ := len1 (n := n) (xs := r) (Nat.succ.inj h); exact ⟨x, y, rfl⟩
end Mine
namespace Mine
open PySem PySem.W PyProof.Rows

section
variable {c : Cx} {d k : Nat} {fx : Fx} {ρ ρ' ρ'' : List Addr} {σ σ' : St} {h h' h'' : Heap} {s s' s₁ : Shared} {A : Around} {Q : V → St → Prop} {X : Fl → St → Prop}
  {loc loc' : List (Str × V)} {hp hp' : List O}

theorem XV.while_ {test : Expr} {body : List Stmt} {pos : Pos} (I : Nat → St → Prop) (n : Nat) (h0 : I n σ)
    (turn : ∀ n σ, I n σ → TV c d fx test σ (fun b σ₁ => if b then XV c d fx (execs body fx.env) σ₁ (fun f σ₂ => match f with
        | .next => ∃ m, m < n ∧ I m σ₂
        | .cont => ∃ m, m < n ∧ I m σ₂
        | .brk => X .next σ₂
        | .ret v => X (.ret v) σ₂) else X .next σ₁)) : XV c d fx (exec (.While test body [] pos) fx.env) σ X := fun ρ s A R r => by
  refine wpAny_While (codeAny_whileLoop (fun n s' => ∃ ρ' σ', Ext fx ρ s.heap ρ' s'.heap ∧ RelS c fx ρ' σ' s' ∧ I n σ') ?_ n ⟨ρ, σ, .refl _ _ _, r, h0⟩)
  rintro n s₁ ⟨ρ₁, σ₁, e₁, r₁, hI⟩
  refine wpAny_mono (turn n σ₁ hI ρ₁ s₁ A R r₁) ?_ fun _ _ z => z.elim
  rintro b s₂ ⟨ρ₂, σ₂, p₂, e₂, r₂, h₂⟩
  cases b with
  | true =>
    refine wpAny_mono (h₂ ρ₂ s₂ A R r₂) ?_ fun _ _ z => z.elim
    rintro f s₃ ⟨ρ₃, fl, σ₃, e₃, r₃, hf, h₃⟩
    have ee := (e₁.trans e₂ r₁.1.hasL).trans e₃ r₂.1.hasL
    cases hf with
    | next => obtain ⟨m, hm, hi⟩ := h₃; exact ⟨m, hm, ρ₃, σ₃, ee, r₃, hi⟩
    | cont => obtain ⟨m, hm, hi⟩ := h₃; exact ⟨m, hm, ρ₃, σ₃, ee, r₃, hi⟩
    | brk => exact ⟨ρ₃, .next, σ₃, ee, r₃, .next, h₃⟩
    | ret hv => exact ⟨ρ₃, _, σ₃, ee, r₃, .ret hv, h₃⟩
  | false => exact wpAny_execs_nil ⟨ρ₂, .next, σ₂, e₁.trans e₂ r₁.1.hasL, r₂, .next, h₂⟩

theorem OU1.name {x : Str} {pos : Pos} {v : V} {Q : St → Prop} (q : Q ⟨put x v σ.loc, σ.hp⟩) (hx : fx.env.kindOf x = some .local := by rfl) : OU1 c d fx (fun y => assign (.Name x pos) fx.env y) v σ (fun _ σ' => Q σ') := fun ρ s A y _ r hv => by
  show wpAny c.M A (PySem.assign (.Name x pos) fx.env y) _ _ s
  rw [PySem.assign_Name]
  exact wpAny_bind (wpAny_standAt (wpAny_bindName (storeL r hv (fun s' e' r' => ⟨ρ, _, List.prefix_refl _, e', r', q⟩) hx)))
structure It (c : Cx) (ρ₀ : List Addr) (it : Addr) (n : Nat) (item : Nat → V) (C : St → Prop) (J : Nat → Heap → Prop) : Prop where
  next : ∀ fx i ρ σ s A (R : Option Value → Shared → Prop) (E : Value → Shared → Prop), i < n → A.handled = none → C σ → ρ₀ <+: ρ → RelS c fx ρ σ s → J i s.heap →
    (∀ x h' tk, VR ρ h' (item i) x → J (i + 1) h' → Keep [it] s.heap h' → R (some x) { s with heap := h', toks := tk }) → wpAny c.M A (pyNext (.ref it)) R E s
  done : ∀ fx ρ σ s A (R : Option Value → Shared → Prop) (E : Value → Shared → Prop), A.handled = none → C σ → ρ₀ <+: ρ → RelS c fx ρ σ s → J n s.heap →
    (∀ h' tk, Keep [it] s.heap h' → R none { s with heap := h', toks := tk }) → wpAny c.M A (pyNext (.ref it)) R E s
  self : ∀ i (s : Shared) A (R : Value → Shared → Prop) (E : Value → Shared → Prop), J i s.heap → R (.ref it) s → wpAny c.M A (pyIter (.ref it)) R E s
  keep : ∀ i h h', J i h → (∀ o, h.get? it = some o → h'.get? it = some o) → ImmKeep h h' → J i h'
  at_ : ∀ i h, J i h → ∃ o, h.get? it = some o ∧ ¬ Fix o
theorem Rel.floor (r : Rel c fx ρ σ h) {ρ₀ : List Addr} (h1 : fx.ρ₀ <+: ρ₀) (h2 : ρ₀ <+: ρ) : Rel c { fx with ρ₀ := ρ₀ } ρ σ h :=
  { toHRel := r.toHRel, ok := r.ok, loc := r.loc, lfresh := r.lfresh, lapart := r.lapart, pre := h2, glob := r.glob, bltn := r.bltn, kind := r.kind, cells := r.cells.mono h1 }
theorem Rel.unfloor {ρ₀ : List Addr} (h1 : fx.ρ₀ <+: ρ₀) (hc : ClR fx.ρ₀ fx.cl fx.env.cells) (r : Rel c { fx with ρ₀ := ρ₀ } ρ σ h) : Rel c fx ρ σ h :=
  { toHRel := r.toHRel, ok := r.ok, loc := r.loc, lfresh := r.lfresh, lapart := r.lapart, pre := h1.trans r.pre, glob := r.glob, bltn := r.bltn, kind := r.kind, cells := hc }

noncomputable abbrev forX (I : Nat → St → Prop) (i : Nat) (X : Fl → St → Prop) : Fl → St → Prop := fun f σ₂ => match f with
  | .next => I (i + 1) σ₂
  | .cont => I (i + 1) σ₂
  | .brk => X .next σ₂
  | .ret v => X (.ret v) σ₂
theorem forIt {target : Expr} {body : List Stmt} {it : Addr} {n : Nat} {item : Nat → V} {C : St → Prop} {J : Nat → Heap → Prop} {s₀ : Shared} {E : Value → Shared → Prop} (R : Room d A) (T : It c ρ it n item C J) (r : RelS c fx ρ σ s)
    (e₀ : Ext fx ρ s₀.heap ρ s.heap) (hnew : s₀.heap.get? it = none) (hit : it ∉ ρ) (hit0 : c.H₀.get? it = none) (hitL : it ≠ fx.env.locals) (hJ : J 0 s.heap)
    (I : Nat → St → Prop) (h0 : I 0 σ) (hC : ∀ i σ, I i σ → C σ)
    (turn : ∀ i σ, i < n → I i σ → OU1 c d { fx with ρ₀ := ρ } (fun y => PySem.assign target fx.env y) (item i) σ (fun _ σ₁ => XV c d { fx with ρ₀ := ρ } (execs body fx.env) σ₁ (forX I i X)))
    (fin : ∀ σ, I n σ → X .next σ) (ht : ∀ v, letOwnedTupleGo target (.ref it) v = pure ()) :
    codeAny c.M A (.forLoop target (.ref it) body [] fx.env) (fun r s' => match r with | .ok f => PostX c fx ρ s₀ X f s' | .error e => cameBackBy c.M A fx.env E e s') s := by
  have hcl := r.1.cells
  have hpre := r.1.pre
  refine codeAny_forLoop (fun m s' => ∃ i ρ' σ', n - i = m ∧ i ≤ n ∧ Ext fx ρ s₀.heap ρ' s'.heap ∧ it ∉ ρ' ∧ RelS c { fx with ρ₀ := ρ } ρ' σ' s' ∧ J i s'.heap ∧ I i σ') ?_ n ⟨0, ρ, σ, rfl, Nat.zero_le _, e₀, hit, ⟨r.1.floor r.1.pre (List.prefix_refl _), r.2⟩, hJ, h0⟩ ht
  rintro m s₁ ⟨i, ρ₁, σ₁, hm, hin, e₁, hit1, r₁, j₁, hI⟩
  obtain ⟨oi, hoi, hnf⟩ := T.at_ _ _ j₁
  have side : ∀ h', Keep [it] s₁.heap h' → Rel c { fx with ρ₀ := ρ } ρ₁ σ₁ h' := fun h' k => r₁.1.side k (fun b m => by rw [List.mem_singleton] at m; subst m; exact hit0) (fun b m => by rw [List.mem_singleton] at m; subst m; exact hit1)
    (fun m => by rw [List.mem_singleton] at m; exact hitL m.symm) (fun b m o e => by rw [List.mem_singleton] at m; subst m; rw [hoi] at e; cases e; exact hnf)
  have ext : ∀ h', Keep [it] s₁.heap h' → Ext fx ρ s₀.heap ρ₁ h' := fun h' k =>
    ⟨e₁.new, fun b o nb e => k b o (fun m => by rw [List.mem_singleton] at m; subst m; rw [hnew] at e; cases e) (e₁.keep b o nb e)⟩
  rcases Nat.lt_or_eq_of_le hin with hlt | rfl
  · refine T.next { fx with ρ₀ := ρ } i ρ₁ σ₁ s₁ A _ _ hlt R.handled (hC _ _ hI) r₁.1.pre r₁ j₁ fun x h' tk hx j' k' => ?_
    have r₂ : RelS c { fx with ρ₀ := ρ } ρ₁ σ₁ { s₁ with heap := h', toks := tk } := ⟨side h' k', r₁.2⟩
    refine wpAny_mono (turn i σ₁ hlt hI ρ₁ { s₁ with heap := h', toks := tk } A x R r₂ hx) ?_ fun _ _ z => z.elim
    rintro _ s₂ ⟨ρ₂, σ₂, p₂, e₂, r₂', h₂⟩
    have hit2 : it ∉ ρ₂ := fun q => by
      rcases e₂.new it q with q | q
      · exact hit1 q
      · obtain ⟨o, ho, _⟩ := T.at_ _ _ j'; rw [show h'.get? it = none from q] at ho; cases ho
    have k2 : ∀ o, h'.get? it = some o → s₂.heap.get? it = some o := fun o e => e₂.keep it o (fun m => by
      rcases List.mem_cons.mp m with q | q
      · exact hitL q
      · exact hit1 q) e
    have j₂ : J (i + 1) s₂.heap := T.keep _ _ _ j' k2 (r₂.1.immKeep e₂.keep)
    refine wpAny_mono (h₂ ρ₂ s₂ A R r₂') ?_ fun _ _ z => z.elim
    rintro f s₃ ⟨ρ₃, fl, σ₃, e₃, r₃, hf, h₃⟩
    have hit3 : it ∉ ρ₃ := fun q => by
      rcases e₃.new it q with q | q
      · exact hit2 q
      · obtain ⟨o, ho, _⟩ := T.at_ _ _ j₂; rw [q] at ho; cases ho
    have k3 : ∀ o, s₂.heap.get? it = some o → s₃.heap.get? it = some o := fun o e => e₃.keep it o (fun m => by
      rcases List.mem_cons.mp m with q | q
      · exact hitL q
      · exact hit2 q) e
    have j₃ : J (i + 1) s₃.heap := T.keep _ _ _ j₂ k3 (r₂'.1.immKeep e₃.keep)
    have e₂' : Ext fx ρ₁ h' ρ₂ s₂.heap := ⟨e₂.new, e₂.keep⟩
    have e₃' : Ext fx ρ₂ s₂.heap ρ₃ s₃.heap := ⟨e₃.new, e₃.keep⟩
    have hL2 : ∃ o, h'.get? fx.env.locals = some o := r₂.1.hasL
    have hL3 : ∃ o, s₂.heap.get? fx.env.locals = some o := r₂'.1.hasL
    have ee : Ext fx ρ s₀.heap ρ₃ s₃.heap := ((ext h' k').trans e₂' hL2).trans e₃' hL3
    have r₃' : RelS c fx ρ₃ σ₃ s₃ := ⟨r₃.1.unfloor hpre hcl, r₃.2⟩
    cases hf with
    | next => exact ⟨n - (i + 1), by omega, i + 1, ρ₃, σ₃, rfl, hlt, ee, hit3, r₃, j₃, h₃⟩
    | cont => exact ⟨n - (i + 1), by omega, i + 1, ρ₃, σ₃, rfl, hlt, ee, hit3, r₃, j₃, h₃⟩
    | brk => exact ⟨ρ₃, .next, σ₃, ee, r₃', .next, h₃⟩
    | ret hv => exact ⟨ρ₃, _, σ₃, ee, r₃', .ret hv, h₃⟩
  · refine T.done { fx with ρ₀ := ρ } ρ₁ σ₁ s₁ A _ _ R.handled (hC _ _ hI) r₁.1.pre r₁ j₁ fun h' tk k' => ?_
    exact wpAny_execs_nil ⟨ρ₁, .next, σ₁, ext h' k', ⟨(side h' k').unfloor hpre hcl, r₁.2⟩, .next, fin _ hI⟩

theorem notFix_of {o : Obj} {T : String} (h : o.cls = .type T) (ht : (T != "tuple" && T != "method" && T != "code") = true) : ¬ Fix o := fun f => by
  simp only [Bool.and_eq_true, bne_iff_ne, ne_eq] at ht
  rcases f with ⟨_, _, rfl⟩ | ⟨_, _, rfl⟩ | ⟨e, _⟩
  · simp at h; exact ht.1.1 h.symm
  · simp at h; exact ht.1.2 h.symm
  · rw [h] at e; simp at e; exact ht.2 e
theorem It.list {l : Nat} {vs : List V} {a it : Addr} (hl : ρ[l]? = some a) : It c ρ it vs.length (fun i => vs.getD i .none) (fun σ => σ.hp[l]? = some (.list vs)) (fun i h => h.IsListIter it a i) where
  next := fun fx i ρ' σ s A R E hi hh hC hp r hJ q => by
    obtain ⟨x, h1, xs, n, rfl, h2⟩ := r.1.obj l a _ (pre_get hp hl) hC
    have hi' : i < xs.length := h2.length ▸ hi
    obtain ⟨y, hy, hv⟩ := h2.get (i := i) (u := vs.getD i .none) (by rw [List.getD_eq_getElem?_getD, List.getElem?_eq_getElem hi]; rfl)
    refine wpAny_pyNext_list_item hJ ⟨_, h1, rfl, n, rfl⟩ (x := y) (by simpa using hy) fun h' hit hs => ?_
    have k : Keep [it] s.heap h' := .of_sameBut hs
    refine q y h' s.toks (hv.mono (List.prefix_refl _) fun b o f e => k b o (fun m => ?_) e) hit k
    rw [List.mem_singleton] at m; subst m
    obtain ⟨o', e1, e2, e3⟩ := hJ
    rw [e] at e1; cases e1
    exact notFix_of e2 (by decide) f
  done := fun fx ρ' σ s A R E hh hC hp r hJ q => by
    obtain ⟨x, h1, xs, n, rfl, h2⟩ := r.1.obj l a _ (pre_get hp hl) hC
    refine wpAny_pyNext_list_end hh hJ ⟨_, h1, rfl, n, rfl⟩ (by simp [h2.length]) fun h' hx => q h' s.toks (.of_extBut hx)
  self := fun i s A R E hJ h => wpAny_pyIter_listiter hJ h
  keep := fun i h h' hJ k _ => let ⟨o, e, r⟩ := hJ; ⟨o, k o e, r⟩
  at_ := fun i h ⟨o, e, e2, e3⟩ => ⟨o, e, notFix_of e2 (by decide)⟩
theorem It.topList {xs : List Value} {vs : List V} {a it : Addr} (hl : c.H₀.IsList a xs.toArray) (hv : ∀ ρ h, VRs ρ h vs xs) : It c ρ it vs.length (fun i => vs.getD i .none) (fun σ => True) (fun i h => h.IsListIter it a i) where
  next := fun fx i ρ' σ s A R E hi hh hC hp r hJ q => by
    have hi' : i < xs.length := (hv [] s.heap).length ▸ hi
    have hl' : s.heap.IsList a xs.toArray := let ⟨o, e, y⟩ := hl; ⟨o, r.1.keep _ _ e, y⟩
    refine wpAny_pyNext_list_item hJ hl' (x := xs[i]) (by simp [hi']) fun h' hit hs => ?_
    obtain ⟨y, hy, hv'⟩ := (hv ρ' h').get (i := i) (u := vs.getD i .none) (by rw [List.getD_eq_getElem?_getD, List.getElem?_eq_getElem hi]; rfl)
    have : y = xs[i] := by rw [List.getElem?_eq_getElem hi'] at hy; exact (Option.some.inj hy).symm
    subst this
    exact q _ h' s.toks hv' hit (.of_sameBut hs)
  done := fun fx ρ' σ s A R E hh hC hp r hJ q => by
    have hl' : s.heap.IsList a xs.toArray := let ⟨o, e, y⟩ := hl; ⟨o, r.1.keep _ _ e, y⟩
    refine wpAny_pyNext_list_end hh hJ hl' (by simp [(hv [] s.heap).length]) fun h' hx => q h' s.toks (.of_extBut hx)
  self := fun i s A R E hJ h => wpAny_pyIter_listiter hJ h
  keep := fun i h h' hJ k _ => let ⟨o, e, r⟩ := hJ; ⟨o, k o e, r⟩
  at_ := fun i h ⟨o, e, e2, e3⟩ => ⟨o, e, notFix_of e2 (by decide)⟩

end
end Mine
namespace Mine
open PySem PySem.W PyProof.Rows PySem.SeqAt

section
variable {c : Cx} {d k : Nat} {fx : Fx} {ρ ρ' ρ'' : List Addr} {σ σ' : St} {h h' h'' : Heap} {s s' s₁ : Shared} {A : Around} {Q : V → St → Prop} {X : Fl → St → Prop}
  {loc loc' : List (Str × V)} {hp hp' : List O}

theorem str_eq_of {x : Str} {l : List Nat} (e : x.cps.toList = l) : x = ⟨l.toArray⟩ := by
  subst e; cases x; simp

theorem seqIndex_of {k : Int} {n : Nat} (h0 : 0 ≤ k) (h1 : k < n) : seqIndex? k n = some k.toNat := by
  unfold seqIndex?
  have h2 : ¬ k < 0 := by omega
  simp only [h2, if_false, h0, h1, decide_true, Bool.and_self, if_true]
theorem EV.sub {value slice : Expr} {pos : Pos} (h : EV c d fx (eval value fx.env) σ (fun v σ₁ => EV c d fx (eval slice fx.env) σ₁ (fun u σ₂ => OV2 c d fx (fun o i => subscriptTail value slice o i) v u σ₂ Q))) :
    EV c d fx (eval (.Subscript value slice pos) fx.env) σ Q := fun ρ s A R r => by
  refine Subscript_ (wpAny_mono (h ρ s A R r) ?_ fun _ _ e => e)
  rintro x s₁ ⟨ρ₁, v, σ₁, p₁, e₁, r₁, v₁, h₁⟩
  refine wpAny_mono (h₁ ρ₁ s₁ A R r₁) ?_ fun _ _ e => e
  rintro y s₂ ⟨ρ₂, u, σ₂, p₂, e₂, r₂, v₂, h₂⟩
  exact wpAny_mono (h₂ ρ₂ s₂ A x y R r₂ (v₁.mono p₂ (r₁.1.immKeep e₂.keep)) v₂) (fun _ _ z => (z.trans p₂ e₂ r₂).trans p₁ e₁ r₁) fun _ _ e => e
theorem HRel.list (r : HRel c ρ hp h) {i : Nat} {vs : List V} (e : hp[i]? = some (.list vs)) : ∃ a xs n, ρ[i]? = some a ∧ h.get? a = some (listObj (List.toArray xs) n) ∧ VRs ρ h vs xs ∧ h.IsList a xs.toArray := by
  obtain ⟨a, x, h1, h2, xs, n, rfl, h3⟩ := r.at e
  exact ⟨a, xs, n, h1, h2, h3, _, h2, rfl, n, rfl⟩
noncomputable def SubOk (slice : Expr) : Prop := ∀ o i : Value, ∃ ops, subscripted slice false o i = operate ops (getItem o i)
theorem OV2.item {value slice : Expr} {l : Nat} {vs : List V} {k : Int} {v : V} (ho : σ.hp[l]? = some (.list vs)) (h0 : 0 ≤ k) (hv : vs[k.toNat]? = some v) (hb : vs.length < 2 ^ 62) (q : Q v σ) (hs : SubOk slice := by intro _ _; exact ⟨_, rfl⟩) :
    OV2 c d fx (fun o i => subscriptTail value slice o i) (.ref l) (.int k) σ Q := fun ρ s A x y R r vx vy => by
  cases vx using VR.refC with
  | ref ha =>
    cases vy using VR.intC with
    | int t =>
      rename_i b
      obtain ⟨a, xs, n, h1, h2, h3, h4⟩ := r.1.toHRel.list ho
      have eab : b = a := Option.some.inj (ha.symm.trans h1)
      subst eab
      obtain ⟨y, hy, hv'⟩ := h3.get hv
      obtain ⟨ops, hs⟩ := hs (.ref b) (.int k t)
      have hlt := (List.getElem?_eq_some_iff.mp hv).1
      exact tail_any h4.typeIs slot_list_getitem.lookup (wpAny_getItem_list h4 h0 (by omega) (by simpa using hy) (Post.same r rfl rfl rfl hv' q)) hs
theorem OV2.itemN {value slice : Expr} {l : Nat} {vs : List V} {k : Int} {v : V} (ho : σ.hp[l]? = some (.list vs)) (h0 : k < 0) (h1 : 0 ≤ k + vs.length) (hv : vs[(k + vs.length).toNat]? = some v) (hb : vs.length < 2 ^ 62) (q : Q v σ) (hs : SubOk slice := by intro _ _; exact ⟨_, rfl⟩) :
    OV2 c d fx (fun o i => subscriptTail value slice o i) (.ref l) (.int k) σ Q := fun ρ s A x y R r vx vy => by
  cases vx using VR.refC with
  | ref ha =>
    cases vy using VR.intC with
    | int t =>
      rename_i b
      obtain ⟨a, xs, n, g1, h2, h3, h4⟩ := r.1.toHRel.list ho
      have eab : b = a := Option.some.inj (ha.symm.trans g1)
      subst eab
      obtain ⟨y, hy, hv'⟩ := h3.get hv
      obtain ⟨ops, hs⟩ := hs (.ref b) (.int k t)
      have hl : xs.toArray.size = vs.length := by simp [h3.length]
      exact tail_any h4.typeIs slot_list_getitem.lookup (wpAny_getItem_list_neg h4 h0 (by rw [hl]; omega) (by omega) (by rw [hl]; simpa using hy) (Post.same r rfl rfl rfl hv' q)) hs
theorem OV2.itemS {value slice : Expr} {l : List Nat} {k : Int} {n : Nat} (h0 : 0 ≤ k) (hv : l[k.toNat]? = some n) (hb : l.length < 2 ^ 62) (q : Q (.str [n]) σ) (hs : SubOk slice := by intro _ _; exact ⟨_, rfl⟩) :
    OV2 c d fx (fun o i => subscriptTail value slice o i) (.str l) (.int k) σ Q := fun ρ s A x y R r vx vy => by
  cases vx using VR.strC with
  | str t e =>
    rename_i x
    cases vy using VR.intC with
    | int u =>
      obtain ⟨ops, hs⟩ := hs (.str x t) (.int k u)
      have hlt := (List.getElem?_eq_some_iff.mp hv).1
      have hxl : x.length = l.length := by show x.cps.size = _; rw [← e]; simp
      have hx2 : x.cps[k.toNat]? = some n := by rw [← Array.getElem?_toList, e]; exact hv
      refine tail_any (T := "str") (typeIs_str s x t) F.slot_str_getitem.lookup (P.getItem_str (c := n) ?_ ?_ (Post.same r rfl rfl rfl (.str _ (by simp)) q)) hs
      · simp only [Bool.or_eq_false_iff, decide_eq_false_iff_not]; omega
      · rw [seqIndex_of h0 (by omega)]
        exact hx2

theorem range'_get (l : List Nat) : ∀ (n a : Nat), (List.range' a n).filterMap (l[·]?) = (l.drop a).take n
  | 0, a => by simp
  | n + 1, a => by
    rw [List.range'_succ, List.filterMap_cons]
    by_cases h : a < l.length
    · rw [List.getElem?_eq_getElem h, range'_get l n (a + 1), List.drop_eq_getElem_cons h, List.take_succ_cons]
    · have h' := Nat.le_of_not_lt h
      rw [List.getElem?_eq_none h', range'_get l n (a + 1), List.drop_eq_nil_of_le h', List.drop_eq_nil_of_le (by omega)]
      simp
theorem sliceRange_nat (a b : Nat) : sliceRange (a : Int) (b : Int) 1 = List.range' a (b - a) := by
  unfold sliceRange
  rw [List.range'_eq_map_range]
  have : (if (1 : Int) > 0 then if (a : Int) < (b : Int) then ((b : Int) - a + 1 - 1) / 1 else 0 else if (a : Int) > b then ((a : Int) - b - 1 - 1) / -1 else 0).toNat = b - a := by
    rw [if_pos (by decide)]
    split <;> simp <;> omega
  simp only [this]
  apply List.map_congr_left
  intro k _
  omega
noncomputable def clipLo (n : Nat) : Option Nat → Nat
  | none => 0
  | some i => min i n
noncomputable def clipHi (n : Nat) : Option Nat → Nat
  | none => n
  | some j => min j n
noncomputable def cut (l : List Nat) (i j : Option Nat) : List Nat := (l.drop (clipLo l.length i)).take (clipHi l.length j - clipLo l.length i)
theorem sliceIdx_nat (n : Nat) (i j : Option Nat) : Builtin.Str.strSliceIndices (i.map Int.ofNat) (j.map Int.ofNat) 1 n = List.range' (clipLo n i) (clipHi n j - clipLo n i) := by
  rw [← sliceRange_nat]
  unfold Builtin.Str.strSliceIndices
  cases i with
  | none =>
    cases j with
    | none => rfl
    | some j =>
      simp only [Option.map_none, Option.map_some, clipLo, clipHi]
      have : ¬ (Int.ofNat j) < 0 := by simp
      simp only [this, if_false, show (1 : Int) > 0 from by decide, if_true]
      congr 1
      simp only [Int.ofNat_eq_natCast]; omega
  | some i =>
    have hi : ¬ (Int.ofNat i) < 0 := by simp
    cases j with
    | none =>
      simp only [Option.map_none, Option.map_some, clipLo, clipHi, hi, if_false, show (1 : Int) > 0 from by decide, if_true]
      congr 1
      simp only [Int.ofNat_eq_natCast]; omega
    | some j =>
      have hj : ¬ (Int.ofNat j) < 0 := by simp
      simp only [Option.map_some, clipLo, clipHi, hi, hj, if_false, show (1 : Int) > 0 from by decide, if_true]
      congr 1 <;> (simp only [Int.ofNat_eq_natCast]; omega)
theorem slice_cut (x : Str) (i j : Option Nat) : (Txt.slice x (i.map Int.ofNat) (j.map Int.ofNat)).cps.toList = cut x.cps.toList i j := by
  have hl : x.length = x.cps.toList.length := by show x.cps.size = _; simp
  have hf : ((Builtin.Str.strSliceIndices (i.map Int.ofNat) (j.map Int.ofNat) 1 x.length).filterMap (x.cps[·]?)) = cut x.cps.toList i j := by
    rw [sliceIdx_nat, hl]
    show (List.range' _ _).filterMap (fun k : Nat => x.cps[k]?) = _
    have : (fun k : Nat => x.cps[k]?) = fun k : Nat => x.cps.toList[k]? := by funext k; simp
    rw [this, range'_get]
    rfl
  unfold Txt.slice
  split
  · rename_i e
    rw [← hf]
    simp only [beq_self_eq_true, Bool.true_and, beq_iff_eq] at e
    rw [sliceIdx_nat] at e ⊢
    rw [List.length_range'] at e
    have h0 : clipLo x.length i = 0 ∨ x.length = 0 := by
      have : clipHi x.length j ≤ x.length := by cases j <;> simp [clipHi] <;> omega
      omega
    show _ = (List.range' _ _).filterMap (fun k : Nat => x.cps[k]?)
    have : (fun k : Nat => x.cps[k]?) = fun k : Nat => x.cps.toList[k]? := by funext k; simp
    rw [this, range'_get, e]
    rcases h0 with h0 | h0
    · rw [h0, List.drop_zero, hl, List.take_length]
    · have : x.cps.toList = [] := List.length_eq_zero_iff.mp (hl ▸ h0)
      rw [this]; simp
  · simp only [hf]
theorem EV.slice {value : Expr} {lo hi : Option Expr} {sp pos : Pos} {l : List Nat}
    (h : EV c d fx (eval value fx.env) σ (fun v σ₁ => v = .str l ∧ l.length ≤ 2 ^ 20 ∧
      (match lo with | none => fun K => K none σ₁ | some e => fun K => EV c d fx (eval e fx.env) σ₁ (fun u σ₂ => ∃ n : Nat, u = .int n ∧ K (some n) σ₂) : (Option Nat → St → Prop) → Prop) (fun i σ₂ =>
      (match hi with | none => fun K => K none σ₂ | some e => fun K => EV c d fx (eval e fx.env) σ₂ (fun u σ₃ => ∃ n : Nat, u = .int n ∧ K (some n) σ₃) : (Option Nat → St → Prop) → Prop) (fun j σ₃ => Q (.str (cut l i j)) σ₃)))) :
    EV c d fx (eval (.Subscript value (.Slice lo hi none sp) pos) fx.env) σ Q := fun ρ s A R r => by
  refine Subscript_ (wpAny_mono (h ρ s A R r) ?_ fun _ _ e => e)
  rintro x s₁ ⟨ρ₁, _, σ₁, p₁, e₁, r₁, v₁, rfl, hl, h₁⟩
  cases v₁ using VR.strC with
  | str t ex =>
    rename_i x
    have hxl : x.length = l.length := by show x.cps.size = _; rw [← ex]; simp
    have opt : ∀ (o : Option Expr) (ρ : List Addr) (σ : St) (s : Shared) (K : Option Nat → St → Prop), RelS c fx ρ σ s →
        (match o with | none => fun K => K none σ | some e => fun K => EV c d fx (eval e fx.env) σ (fun u σ₂ => ∃ n : Nat, u = .int n ∧ K (some n) σ₂) : (Option Nat → St → Prop) → Prop) K →
        wpAny c.M A (valueOrNone (evalOpt o fx.env)) (fun y s' => ∃ ρ' σ' n, ρ <+: ρ' ∧ Ext fx ρ s.heap ρ' s'.heap ∧ RelS c fx ρ' σ' s' ∧ (match n with | none => y = .none | some n => ∃ t, y = .int (Int.ofNat n) t) ∧ K n σ') noE s := by
      intro o ρ σ s K r hK
      cases o with
      | none => exact wpAny_pure ⟨ρ, σ, none, List.prefix_refl _, .refl _ _ _, r, rfl, hK⟩
      | some e =>
        refine wpAny_mono (hK ρ s A R r) ?_ fun _ _ z => z
        rintro y s' ⟨ρ', _, σ', p, e', r', hv, n, rfl, k⟩
        cases hv using VR.intC with
        | int t => exact ⟨ρ', σ', some n, p, e', r', ⟨t, rfl⟩, k⟩
    show wpAny c.M A (do
      let l ← valueOrNone (evalOpt lo fx.env)
      let u ← holding [l] (valueOrNone (evalOpt hi fx.env))
      let s ← holding [l, u] (valueOrNone (evalOpt none fx.env))
      newFields "slice" [l, u, s]) _ _ s₁
    refine wpAny_bind (wpAny_mono (opt lo ρ₁ σ₁ s₁ _ r₁ h₁) ?_ fun _ _ z => z)
    rintro y s₂ ⟨ρ₂, σ₂, i, p₂, e₂, r₂, hy, h₂⟩
    refine wpAny_bind (wpAny_holding (wpAny_mono (opt hi ρ₂ σ₂ s₂ _ r₂ h₂) ?_ fun _ _ z => z))
    rintro z s₃ ⟨ρ₃, σ₃, j, p₃, e₃, r₃, hz, q⟩
    refine wpAny_bind (wpAny_holding (wpAny_pure ?_))
    have fin : ∀ (h' : Heap) (t' : Tok) (k : Nat), (Rel c fx ρ₃ σ₃ h' ∧ Ext fx ρ₃ s₃.heap ρ₃ h') → Post c fx ρ s Q (.str (Txt.slice x (i.map Int.ofNat) (j.map Int.ofNat)) t') { s₃ with heap := h', toks := k } := fun h' t' k P =>
      ⟨ρ₃, _, σ₃, (p₁.trans p₂).trans p₃, ((e₁.trans e₂ r₁.1.hasL).trans e₃ r₂.1.hasL).trans P.2 r₃.1.hasL, ⟨P.1, r₃.2⟩, .str _ (by rw [slice_cut, ex]), q⟩
    have kept : KeptH (fun h' => Rel c fx ρ₃ σ₃ h' ∧ Ext fx ρ₃ s₃.heap ρ₃ h') := fun h' ob P => ⟨P.1.push ob, P.2.trans (.push ob) P.1.hasL⟩
    have base : Rel c fx ρ₃ σ₃ s₃.heap ∧ Ext fx ρ₃ s₃.heap ρ₃ s₃.heap := ⟨r₃.1, .refl _ _ _⟩
    have hsz : x.length ≤ sizeLine := by rw [hxl, sizeLine_eq]; omega
    refine wpAny_newObj_type ?_ (by size_fits)
    cases i with
    | none =>
      cases hy
      cases j with
      | none => cases hz; exact tail_of_ItemOn (SBH.sliceItem_nn kept base fin hsz) (by with_unfolding_all rfl) (by intro r; unfold letTemporaryGo; split <;> first | rfl | contradiction)
      | some j => obtain ⟨t2, rfl⟩ := hz; exact tail_of_ItemOn (SBH.sliceItem_ns kept base fin hsz) (by with_unfolding_all rfl) (by intro r; unfold letTemporaryGo; split <;> first | rfl | contradiction)
    | some i =>
      obtain ⟨t1, rfl⟩ := hy
      cases j with
      | none => cases hz; exact tail_of_ItemOn (SBH.sliceItem_sn kept base fin hsz) (by with_unfolding_all rfl) (by intro r; unfold letTemporaryGo; split <;> first | rfl | contradiction)
      | some j => obtain ⟨t2, rfl⟩ := hz; exact tail_of_ItemOn (SBH.sliceItem_ss kept base fin hsz) (by with_unfolding_all rfl) (by intro r; unfold letTemporaryGo; split <;> first | rfl | contradiction)
end
end Mine
namespace Mine
open PySem PySem.W PyProof.Rows PySem.SeqAt

section
variable {c : Cx} {d k : Nat} {fx : Fx} {ρ ρ' ρ'' : List Addr} {σ σ' : St} {h h' h'' : Heap} {s s' s₁ : Shared} {A : Around} {Q : V → St → Prop} {X : Fl → St → Prop}
  {loc loc' : List (Str × V)} {hp hp' : List O}

theorem OV2.ifdiv_int {a b : Int} (hb : b ≠ 0) (hp : Builtin.divisionGoesByPylong a b = false) (q : Q (.int (a.fdiv b)) σ) : OV2 c d fx (inplaceOp .FloorDiv) (.int a) (.int b) σ Q := fun ρ s A x y _ r vx vy => by
  cases vx using VR.intC; cases vy using VR.intC; exact PyProof.Rows.ifloordiv_int hb (Post.same r rfl rfl rfl (.int _ _) q) (.inl hp)
theorem OV2.pow_int {a n : Int} (hn : 0 ≤ n) (hn2 : n ≤ 1000000) (ha : a.natAbs < 2 ^ 64) (q : Q (.int (a ^ n.toNat)) σ) : OV2 c d fx (binaryOp .Pow) (.int a) (.int n) σ Q := fun ρ s A x y _ r vx vy => by
  cases vx using VR.intC; cases vy using VR.intC; exact PyProof.Rows.pow_int_small hn hn2 ha (Post.same r rfl rfl rfl (.int _ _) q)
theorem OVs.abs {a : Int} (q : Q (.int (if a < 0 then -a else a)) σ) : OVs c d fx (fun xs => PySem.call (.builtin "abs") xs) [.int a] σ Q := fun ρ s A xs _ r va => by
  cases va using VRs.consC with
  | cons v1 v2 => cases v1 using VR.intC; cases v2 using VRs.nilC; exact call_abs_int fun u tk => Post.same r rfl rfl rfl (.int _ _) q
theorem OV2.in_str {n : Nat} {l : List Nat} (q : Q (.bool (decide (n ∈ l))) σ) : OV2 c d fx (compareOp .In) (.str [n]) (.str l) σ Q := fun ρ s A x y _ r vx vy => by
  cases vx using VR.strC with
  | str t e =>
    cases vy using VR.strC with
    | str u f =>
      rename_i x y
      refine P.in_str ?_
      have : x = ⟨#[n]⟩ := str_eq_of e
      rw [this, StrLaws.found_one, f]
      exact Post.same r rfl rfl rfl (.bool _) q
theorem OVs.len_str {l : List Nat} (hl : l.length < 2 ^ 62) (q : Q (.int l.length) σ) : OVs c d fx (fun xs => PySem.call (.builtin "len") xs) [.str l] σ Q := fun ρ s A xs _ r va => by
  cases va using VRs.consC with
  | cons v1 v2 =>
    cases v2 using VRs.nilC
    cases v1 using VR.strC with
    | str t e =>
      rename_i x
      have hx : x.length = l.length := by show x.cps.size = _; rw [← e]; simp
      refine P.len_str (by rw [hx]; omega) ?_
      rw [hx]; exact Post.same r rfl rfl rfl (.int _ _) q
theorem OVs.len_list {i : Nat} {vs : List V} (ho : σ.hp[i]? = some (.list vs)) (hl : vs.length < 2 ^ 62) (q : Q (.int vs.length) σ) : OVs c d fx (fun xs => PySem.call (.builtin "len") xs) [.ref i] σ Q := fun ρ s A xs _ r va => by
  cases va using VRs.consC with
  | cons v1 v2 =>
    cases v2 using VRs.nilC
    cases v1 using VR.refC with
    | ref ha =>
      rename_i b
      obtain ⟨a, ys, n, h1, h2, h3, h4⟩ := r.1.toHRel.list ho
      have eab : b = a := Option.some.inj (ha.symm.trans h1)
      subst eab
      have hx : ys.toArray.size = vs.length := by simp [h3.length]
      refine PyProof.Rows.len_list h4 (by rw [hx]; omega) ?_
      rw [hx]; exact Post.same r rfl rfl rfl (.int _ _) q

noncomputable def OT (c : Cx) (d : Nat) (fx : Fx) (v : V) (σ : St) (Q : Bool → St → Prop) : Prop := OU1 c d fx (fun x => truthy x) v σ Q
theorem PostU.same {α : Type} {Q : α → St → Prop} {x : α} (r : RelS c fx ρ σ s) (hs : s'.heap = s.heap) (hg : s'.gens = s.gens) (ho : s'.os = s.os) (q : Q x σ) : PostU c fx ρ s Q x s' :=
  ⟨ρ, σ, List.prefix_refl _, by rw [hs]; exact .refl _ _ _, by unfold RelS at r ⊢; rw [hs, hg, ho]; exact r, q⟩
theorem OT.list {i : Nat} {vs : List V} {Q : Bool → St → Prop} (ho : σ.hp[i]? = some (.list vs)) (hl : vs.length < 2 ^ 62) (q : Q (!vs.isEmpty) σ) : OT c d fx (.ref i) σ Q := fun ρ s A x _ r vx => by
  cases vx using VR.refC with
  | ref ha =>
    rename_i b
    obtain ⟨a, ys, n, h1, h2, h3, h4⟩ := r.1.toHRel.list ho
    have eab : b = a := Option.some.inj (ha.symm.trans h1)
    subst eab
    have hx : ys.toArray.size = vs.length := by simp [h3.length]
    refine wpAny_truthy_list h4 (by rw [hx]; omega) (PostU.same r rfl rfl rfl ?_)
    have : (!ys.toArray.isEmpty) = !vs.isEmpty := by cases h3 <;> simp
    rw [this]; exact q
theorem TV.plain {e : Expr} {Q : Bool → St → Prop} (h : EV c d fx (eval e fx.env) σ (fun v σ₁ => OT c d fx v σ₁ Q)) (he : isTrue e fx.env (eval e fx.env) = (do let v ← eval e fx.env; standAt e.pos; holding [v] (truthy v)) := by rfl) : TV c d fx e σ Q := fun ρ s A R r => by
  refine isTrue_plain (wpAny_mono (h ρ s A R r) ?_ fun _ _ e => e) he
  rintro x s₁ ⟨ρ₁, v, σ₁, p₁, e₁, r₁, v₁, h₁⟩
  exact wpAny_mono (h₁ ρ₁ s₁ A x R r₁ v₁) (fun _ _ z => z.trans p₁ e₁ r₁) fun _ _ e => e
theorem TV.or1 {e : Expr} {rest : List Expr} {pos : Pos} {Q : Bool → St → Prop} (h : TV c d fx e σ (fun b σ₁ => if b then Q true σ₁ else TV c d fx (.BoolOp .Or rest pos) σ₁ Q)) : TV c d fx (.BoolOp .Or (e :: rest) pos) σ Q := fun ρ s A R r => by
  refine isTrue_or (wpAny_mono (h ρ s A R r) ?_ fun _ _ e => e)
  rintro b s₁ ⟨ρ₁, σ₁, p₁, e₁, r₁, h₁⟩
  cases b with
  | false => exact wpAny_mono (h₁ ρ₁ s₁ A R r₁) (fun _ _ z => z.trans p₁ e₁ r₁) fun _ _ e => e
  | true => exact ⟨ρ₁, σ₁, p₁, e₁, r₁, h₁⟩
theorem TV.or0 {pos : Pos} {Q : Bool → St → Prop} (h : Q false σ) : TV c d fx (.BoolOp .Or [] pos) σ Q := fun ρ s A R r => isTrue_or_nil (PostU.same r rfl rfl rfl h)
theorem EV.ifexp {test body orelse : Expr} {pos : Pos} (h : TV c d fx test σ (fun b σ₁ => if b then EV c d fx (eval body fx.env) σ₁ Q else EV c d fx (eval orelse fx.env) σ₁ Q)) : EV c d fx (eval (.IfExp test body orelse pos) fx.env) σ Q := fun ρ s A R r => by
  refine IfExp_ (wpAny_mono (h ρ s A R r) ?_ fun _ _ e => e)
  rintro b s₁ ⟨ρ₁, σ₁, p₁, e₁, r₁, h₁⟩
  cases b with
  | true => exact wpAny_mono (h₁ ρ₁ s₁ A R r₁) (fun _ _ z => z.trans p₁ e₁ r₁) fun _ _ e => e
  | false => exact wpAny_mono (h₁ ρ₁ s₁ A R r₁) (fun _ _ z => z.trans p₁ e₁ r₁) fun _ _ e => e
theorem setItem_raw {l : Addr} {xs : List Value} {n : Nat} {k : Int} {t : Tok} {v : Value} {R : Unit → Shared → Prop} {E : Value → Shared → Prop} (ho : s.heap.get? l = some (listObj xs.toArray n)) (h0 : 0 ≤ k) (hfit : k < 2 ^ 63) (hn : k < xs.length)
    (q : R () { s with heap := s.heap.update l (Obj.mapSeq (·.setIfInBounds k.toNat v)) }) : wpAny c.M A (setItem (.ref l) (.int k t) v) R E s := by
  have hl : s.heap.IsList l xs.toArray := ⟨_, ho, rfl, n, rfl⟩
  unfold setItem
  try with_reducible refine wpAny_holding ?_
  first | refine wpAny_bind (wpAny_pure ?_) | skip
  refine wpAny_bind (wpAny_sequenceKey hl.typeIs (by decide) ?_)
  refine wpAny_bind (wpAny_callSpecial?_slot (name := Str.ofString "__setitem__") hl.typeIs slot_list_setitem
    (wpAny_call_entry slot_list_setitem hl.typeIs entry_list_setitem ?_ (args_list_setitem _ _ _)))
  show wpAny _ _ (Builtin.List.listSubscript? (.int k t) >>= _) _ _ s
  refine wpAny_bind (wpAny_listSubscript_int (fitsIndex_of h0 hfit) ?_)
  clear hfit
  obtain ⟨j, rfl⟩ := Int.eq_ofNat_of_zero_le h0
  have hj : j < xs.toArray.size := by simp; omega
  have hx' : xs.toArray[j]? = some xs.toArray[j] := Array.getElem?_eq_getElem hj
  show wpAny _ _ ((seqItemAt l j >>= fun r => pure (r.map (j, ·))) >>= _) _ _ s
  refine wpAny_bind (wpAny_bind (wpAny_seqItemAt ho rfl (wpAny_pure ?_)))
  rw [hx']
  show wpAny _ _ (setSeqItemAt l j v >>= _) _ _ s
  refine wpAny_bind (wpAny_setSeqItemAt ho rfl ?_)
  first
    | exact wpAny_bind (wpAny_pure (wpAny_pure ⟨.none, rfl, wpAny_pure q⟩))
    | exact wpAny_pure ⟨.none, rfl, wpAny_pure q⟩
theorem setItemV {x : Addr} {l : Nat} {vs : List V} {k : Int} {t : Tok} {v : V} {u : Value} {R : Unit → Shared → Prop} (r : RelS c fx ρ ⟨loc, hp⟩ s) (hx : ρ[l]? = some x) (ho : hp[l]? = some (.list vs)) (h0 : 0 ≤ k) (hn : k < vs.length) (hb : vs.length < 2 ^ 62) (hv : VR ρ s.heap v u)
    (q : ∀ s', Ext fx ρ s.heap ρ s'.heap → RelS c fx ρ ⟨loc, hp.set l (.list (vs.set k.toNat v))⟩ s' → R () s') : wpAny c.M A (setItem (.ref x) (.int k t) u) R noE s := by
  obtain ⟨a, xs, n, h1, h2, h3, h4⟩ := r.1.toHRel.list ho
  have eab : x = a := Option.some.inj (hx.symm.trans h1)
  subst eab
  refine setItem_raw h2 h0 (by omega) (by rw [← h3.length]; exact hn) ?_
  have hs : Keep [x] s.heap (s.heap.update x (Obj.mapSeq (·.setIfInBounds k.toNat u))) := .of_sameBut (Heap.SameBut.update ..)
  have hg : (s.heap.update x (Obj.mapSeq (·.setIfInBounds k.toNat u))).get? x = some (listObj (xs.set k.toNat u).toArray n) := by
    rw [Heap.get?_update_self _ h2 rfl]
    show some (listObj (xs.toArray.setIfInBounds k.toNat u) (if (xs.toArray.setIfInBounds k.toNat u).size == xs.toArray.size then n else n + 1)) = _
    simp
  have kk : ImmKeep s.heap (s.heap.update x (Obj.mapSeq (·.setIfInBounds k.toNat u))) := r.1.toHRel.immKeep (hs.sub fun b m => by rw [List.mem_singleton] at m; subst m; exact mem_of_get? hx)
  exact q _ (.upd hx hs) ⟨r.1.upd hx hs hg ⟨_, n, rfl, VRs.set (h3.mono (List.prefix_refl _) kk) (hv.mono (List.prefix_refl _) kk)⟩, r.2⟩
noncomputable def UN (c : Cx) (d : Nat) (fx : Fx) : List Expr → List V → St → (St → Prop) → Prop
  | [], [], σ, Q => Q σ
  | e :: es, v :: vs, σ, Q => OU1 c d fx (fun y => assign e fx.env y) v σ (fun _ σ' => UN c d fx es vs σ' Q)
  | _, _, _, _ => False
theorem UN.run {Q : St → Prop} {R : Unit → Shared → Prop} (hroom : Room d A) : ∀ {es : List Expr} {vs : List V} {xs : List Value} {σ : St} {ρ : List Addr} {s : Shared}, RelS c fx ρ σ s → VRs ρ s.heap vs xs → UN c d fx es vs σ Q →
    (∀ ρ' σ' s', ρ <+: ρ' → Ext fx ρ s.heap ρ' s'.heap → RelS c fx ρ' σ' s' → Q σ' → R () s') → wpAny c.M A (assignInOrder (es.map fun e => assign e fx.env) xs) R noE s
  | [], _, _, σ, ρ, s, r, .nil, q, k => wpAny_pure (k ρ σ s (List.prefix_refl _) (.refl _ _ _) r q)
  | [], _, _, σ, ρ, s, r, .cons _ _, q, k => q.elim
  | e :: es, _, _, σ, ρ, s, r, .nil, q, k => q.elim
  | e :: es, _, _, σ, ρ, s, r, .cons v1 v2, q, k => by
    rw [List.map_cons, assignInOrder]
    refine wpAny_bind (wpAny_holding (wpAny_mono (q ρ s A _ hroom r v1) ?_ fun _ _ z => z))
    rintro _ s₁ ⟨ρ₁, σ₁, p₁, e₁, r₁, h₁⟩
    exact UN.run hroom r₁ (v2.mono p₁ (r.1.immKeep e₁.keep)) h₁ fun ρ' σ' s' p e r' q => k ρ' σ' s' (p₁.trans p) (e₁.trans e r₁.1.hasL) r' q
theorem assignEach_plain {env : Env} : ∀ {es : List Expr}, plainArgs es = true → assignEach es env = es.map fun e => (false, assign e env)
  | [], _ => rfl
  | e :: r, q => by
    cases e <;> first | (simp only [plainArgs] at q; cases q) | (simp only [plainArgs] at q; simp only [assignEach, List.map_cons, assignEach_plain q])
theorem OU1.tuple {elts : List Expr} {x1 : Nat} {pos : Pos} {vs : List V} {Q : St → Prop} (hl : elts.length = vs.length) (q : UN c d fx elts vs σ Q) (hpl : plainArgs elts = true := by rfl) :
    OU1 c d fx (fun y => assign (.Tuple elts x1 pos) fx.env y) (.tup vs) σ (fun _ σ' => Q σ') := fun ρ s A y R r hv => by
  cases hv using VR.tupC with
  | tup ha hx =>
    rename_i a xs n
    have hae := assignEach_plain (env := fx.env) hpl
    refine wpAny_assign_Tuple R.handled (items := xs.toArray) ⟨_, ha, rfl, n, rfl⟩ ?_ ?_ fun h' he => ?_
    · rw [hae]; simp [hl, hx.length]
    · rw [hae]
      clear q hl hae
      induction elts with
      | nil => rfl
      | cons e r ih =>
        have : plainArgs r = true := by cases e <;> first | exact hpl | cases hpl
        rw [List.map_cons, List.findIdx?_cons, ih this]; rfl
    · have hk : ∀ b o, s.heap.get? b = some o → h'.get? b = some o := fun b o e => he b o (Nat.ne_of_lt (Heap.lt_size e)) e
      have r' : RelS c fx ρ σ { s with heap := h' } := ⟨r.1.ext hk, r.2⟩
      have he' : ((assignEach elts fx.env).map (·.2)) = elts.map fun e => assign e fx.env := by rw [hae, List.map_map]; rfl
      rw [he']
      exact UN.run R r' (hx.mono (List.prefix_refl _) fun _ _ _ e => hk _ _ e) q fun ρ' σ' s' p e r'' q => ⟨ρ', σ', p, (Ext.ext hk).trans e r'.1.hasL, r'', q⟩
theorem XV.assignT {elts : List Expr} {x1 : Nat} {tpos : Pos} {value : Expr} {pos : Pos} (h : EV c d fx (eval value fx.env) σ (fun v σ₁ => OU1 c d fx (fun y => PySem.assign (.Tuple elts x1 tpos) fx.env y) v σ₁ (fun _ σ₂ => X .next σ₂)))
    (hs : swapsWithSole [.Tuple elts x1 tpos] value pos.line fx.env = pure false := by rfl) (hw : swappedStores [.Tuple elts x1 tpos] value fx.env = pure none := by rfl) :
    XV c d fx (exec (.Assign [.Tuple elts x1 tpos] value pos) fx.env) σ X := fun ρ s A R r => by
  refine Assign_Tuple (wpAny_mono (h ρ s A R r) ?_ fun _ _ e => e) hs hw
  rintro x s₁ ⟨ρ₁, v, σ₁, p₁, e₁, r₁, v₁, h₁⟩
  refine wpAny_mono (h₁ ρ₁ s₁ A x R r₁ v₁) ?_ fun _ _ z => z
  rintro _ s₂ ⟨ρ₂, σ₂, p₂, e₂, r₂, q⟩
  exact ⟨ρ₂, .next, σ₂, e₁.trans e₂ r₁.1.hasL, r₂, .next, q⟩

end
end Mine
namespace Mine
open PySem PySem.W PyProof.Rows PySem.SeqAt

section
variable {c : Cx} {d k : Nat} {fx : Fx} {ρ ρ' ρ'' : List Addr} {σ σ' : St} {h h' h'' : Heap} {s s' s₁ : Shared} {A : Around} {Q : V → St → Prop} {X : Fl → St → Prop}
  {loc loc' : List (Str × V)} {hp hp' : List O}

noncomputable abbrev MethForm (fx : Fx) (o : Expr) (name : Str) (apos : Pos) (args : List Expr) (pos : Pos) (pl : Sem Bool) : Prop := eval (.Call (.Attribute o name apos) args [] pos) fx.env = (do
      let ov ← eval o fx.env
      standAt apos.atName
      let (f, first) ← holding [ov] (getMethod ov name pl)
      callWith pos f first (backTo pos (starEach args fx.env)) [])
inductive MethI (c : Cx) (name : Str) (Q : Nat → Addr → St → Prop) (u : V) (σ₁ : St) : Prop
  | mk (i : Nat) (C : Addr) (j : Nat) (kvs : List (Str × V)) (f : Addr) (h0 : u = .ref i) (h1 : σ₁.hp[i]? = some (.inst C j)) (h2 : σ₁.hp[j]? = some (.ns kvs)) (h3 : kvs.lookup name = none) (h4 : ClsK c.K C)
    (h5 : findIn c.K (.ref C) name = some (some (.ref f))) (h6 : typeIn c.K (.ref f) = some (.type "function")) (h7 : keepIn c.K (.ref f) = true) (q : Q i f σ₁) : MethI c name Q u σ₁
inductive MethAI (c : Cx) (name : Str) (Q : Nat → St → Prop) (u : V) (σ₁ : St) : Prop
  | mk (i : Nat) (C : Addr) (j : Nat) (kvs : List (Str × V)) (q : Nat) (fl : FnLit) (cl : List (Str × Nat)) (h0 : u = .ref i) (h1 : σ₁.hp[i]? = some (.inst C j)) (h2 : σ₁.hp[j]? = some (.ns kvs)) (h3 : kvs.lookup name = some (.ref q))
    (h3' : σ₁.hp[q]? = some (.fn fl cl)) (h4 : ClsK c.K C) (h5 : findIn c.K (.ref C) name = some none) (q : Q q σ₁) : MethAI c name Q u σ₁
theorem EV.meth {o : Expr} {name : Str} {apos pos : Pos} {args : List Expr} {pl : Sem Bool} (k : Nat)
    (h : EV c d fx (eval o fx.env) σ (MethI c name fun i f σ₁ =>
      EVs c d fx (spliced (backTo pos (starEach args fx.env))) σ₁ (fun vs σ₂ => FV c k (.top f) (.ref i :: vs) σ₂.hp (fun v hp' => Q v ⟨σ₂.loc, hp'⟩))))
    (hkd : k ≤ d := by decide) (hpl : plainArgs args = true := by rfl) (he : MethForm fx o name apos args pos pl := by rfl) :
    EV c d fx (eval (.Call (.Attribute o name apos) args [] pos) fx.env) σ Q := fun ρ s A R r => by
  refine MethodCall_ (wpAny_mono (h ρ s A R r) ?_ fun _ _ e => e) he
  rintro x s₁ ⟨ρ₁, _, σ₁, p₁, e₁, r₁, v₁, i, C, j, kvs, f, rfl, h1, h2, h3, h4, h5, h6, h7, h8⟩
  cases v₁ using VR.refC with
  | ref hx =>
    obtain ⟨x', dx, es, n, g1, g2, g3, g4, g5, I⟩ := r₁.1.toHRel.inst h1 h2
    have ex := Option.some.inj (hx.symm.trans g1)
    subst ex
    have XK := r₁.1.ok.k.keeps r₁.1.keep
    refine method_fn XK I h4.ga h4.gat h5 h6 ?_ ?_
    · show (lookIn name (dictOf es n)).map _ = _; rw [lookIn_dict, g5.miss h3]; rfl
    · refine wpAny_mono (callWithV (P := fun h => c.K.In h) R r₁ hpl (fun h X => keeps_K h7 h X) h8 (fun ρ' s' σ' vs p e r' _ => r'.1.ok.k.keeps r'.1.keep) fun ρ' s' vs xs σ' p e r' va hf => ?_) (fun _ _ z => z.trans p₁ e₁ r₁) fun _ _ z => z
      exact callFV R hkd r' (.top f) (.cons (.ref (pre_get p hx)) va) hf
theorem EV.methA {o : Expr} {name : Str} {apos pos : Pos} {args : List Expr} {pl : Sem Bool} (k : Nat)
    (h : EV c d fx (eval o fx.env) σ (MethAI c name fun q σ₁ =>
      EVs c d fx (spliced (backTo pos (starEach args fx.env))) σ₁ (fun vs σ₂ => (∃ fl cl, σ₂.hp[q]? = some (.fn fl cl)) ∧ FV c k (.ref q) vs σ₂.hp (fun v hp' => Q v ⟨σ₂.loc, hp'⟩))))
    (hkd : k ≤ d := by decide) (hpl : plainArgs args = true := by rfl) (he : MethForm fx o name apos args pos pl := by rfl) :
    EV c d fx (eval (.Call (.Attribute o name apos) args [] pos) fx.env) σ Q := fun ρ s A R r => by
  refine MethodCall_ (wpAny_mono (h ρ s A R r) ?_ fun _ _ e => e) he
  rintro x s₁ ⟨ρ₁, _, σ₁, p₁, e₁, r₁, v₁, i, C, j, kvs, q, fl, cl, rfl, h1, h2, h3, h3', h4, h5, h8⟩
  cases v₁ using VR.refC with
  | ref hx =>
    obtain ⟨x', dx, es, n, g1, g2, g3, g4, g5, I⟩ := r₁.1.toHRel.inst h1 h2
    have ex := Option.some.inj (hx.symm.trans g1)
    subst ex
    have XK := r₁.1.ok.k.keeps r₁.1.keep
    refine method_usual XK I h4.ga h4.gat h5 rfl ?_
    refine getAttrV r₁ hx h1 h2 h3 h4 h5 rfl fun u hu => ?_
    cases hu with
    | ref hq =>
      rename_i a
      have r₁' : RelS c fx ρ₁ σ₁ { s₁ with toks := s₁.toks + 1 } := r₁
      refine wpAny_mono (callWithV (P := FnAt a) R r₁' hpl keeps_F h8 (fun ρ' s' σ' vs p e r' hf => ?_) fun ρ' s' vs xs σ' p e r' va hf => ?_) (fun _ _ z => (z.sh (s₀ := s₁) rfl).trans p₁ e₁ r₁) fun _ _ z => z
      · obtain ⟨⟨fl', cl', hfn⟩, _⟩ := hf
        obtain ⟨x, hx2, clos, doc, pm, cc, ctv, rfl, _⟩ := r'.1.obj q a _ (pre_get p hq) hfn
        exact ⟨_, _, _, _, hx2⟩
      · exact callFV R hkd r' (.ref (pre_get p hq)) va hf.2

theorem EV.methB {o : Expr} {name : Str} {apos pos : Pos} {args : List Expr} {pl : Sem Bool} {id : String} {P : V → St → Prop}
    (h : EV c d fx (eval o fx.env) σ (fun u σ₁ => P u σ₁ ∧ EVs c d fx (spliced (backTo pos (starEach args fx.env))) σ₁ (fun vs σ₂ => OVs c d fx (fun xs => PySem.call (.builtin id) xs) (u :: vs) σ₂ Q)))
    (hm : ∀ u σ₁ ρ s x (R : Value × List Value → Shared → Prop) A, P u σ₁ → RelS c fx ρ σ₁ s → VR ρ s.heap u x → R (.builtin id, [x]) s → wpAny c.M A (getMethod x name pl) R noE s)
    (hpl : plainArgs args = true := by rfl) (he : MethForm fx o name apos args pos pl := by rfl) :
    EV c d fx (eval (.Call (.Attribute o name apos) args [] pos) fx.env) σ Q := fun ρ s A R r => by
  refine MethodCall_ (wpAny_mono (h ρ s A R r) ?_ fun _ _ e => e) he
  rintro x s₁ ⟨ρ₁, u, σ₁, p₁, e₁, r₁, v₁, hP, h₁⟩
  refine hm u σ₁ ρ₁ s₁ x _ A hP r₁ v₁ ?_
  refine wpAny_mono (callWithV (P := fun _ => True) R r₁ hpl (fun h _ => ⟨.machine, .inr (.inl rfl), Looks.of_pure rfl⟩) h₁ (fun _ _ _ _ _ _ _ _ => trivial) fun ρ' s' vs xs σ' p e r' va hf => ?_) (fun _ _ z => z.trans p₁ e₁ r₁) fun _ _ z => z
  exact hf ρ' s' A (x :: xs) R r' (.cons (v₁.mono p (r₁.1.immKeep e.keep)) va)
theorem EV.count {o : Expr} {apos pos : Pos} {args : List Expr} {pl : Sem Bool}
    (h : EV c d fx (eval o fx.env) σ (fun u σ₁ => (∃ l, u = .str l) ∧ EVs c d fx (spliced (backTo pos (starEach args fx.env))) σ₁ (fun vs σ₂ => OVs c d fx (fun xs => PySem.call (.builtin "str.count") xs) (u :: vs) σ₂ Q)))
    (hpl : plainArgs args = true := by rfl) (he : MethForm fx o "count" apos args pos pl := by rfl) : EV c d fx (eval (.Call (.Attribute o "count" apos) args [] pos) fx.env) σ Q :=
  EV.methB (P := fun u _ => ∃ l, u = .str l) h (fun u σ₁ ρ s x R A ⟨l, e⟩ r hv q => by subst e; cases hv using VR.strC; exact GM.count q) hpl he
theorem EV.append {o : Expr} {apos pos : Pos} {args : List Expr} {pl : Sem Bool}
    (h : EV c d fx (eval o fx.env) σ (fun u σ₁ => (∃ i vs, u = .ref i ∧ σ₁.hp[i]? = some (.list vs)) ∧ EVs c d fx (spliced (backTo pos (starEach args fx.env))) σ₁ (fun vs σ₂ => OVs c d fx (fun xs => PySem.call (.builtin "list.append") xs) (u :: vs) σ₂ Q)))
    (hpl : plainArgs args = true := by rfl) (he : MethForm fx o "append" apos args pos pl := by rfl) : EV c d fx (eval (.Call (.Attribute o "append" apos) args [] pos) fx.env) σ Q :=
  EV.methB (P := fun u σ₁ => ∃ i vs, u = .ref i ∧ σ₁.hp[i]? = some (.list vs)) h (fun u σ₁ ρ s x R A ⟨i, vs, e, ho⟩ r hv q => by
    subst e
    cases hv using VR.refC with
    | ref ha =>
      rename_i b
      obtain ⟨a, ys, n, h1, h2, h3, h4⟩ := r.1.toHRel.list ho
      have eab : b = a := Option.some.inj (ha.symm.trans h1)
      subst eab
      exact Calls.getMethod_list_append h2 rfl rfl q) hpl he
theorem OVs.append {i : Nat} {vs : List V} {v : V} (ho : σ.hp[i]? = some (.list vs)) (hl : vs.length < 2 ^ 20) (q : Q .none ⟨σ.loc, σ.hp.set i (.list (vs ++ [v]))⟩) : OVs c d fx (fun xs => PySem.call (.builtin "list.append") xs) [.ref i, v] σ Q := fun ρ s A xs R r va => by
  obtain ⟨loc, hp⟩ := σ
  cases va using VRs.consC with
  | cons v1 v2 =>
    cases v2 using VRs.consC with
    | cons v2 v3 =>
      cases v3 using VRs.nilC
      cases v1 using VR.refC with
      | ref ha =>
        rename_i y b
        obtain ⟨a, ys, n, h1, h2, h3, h4⟩ := r.1.toHRel.list ho
        have eab : b = a := Option.some.inj (ha.symm.trans h1)
        subst eab
        have hsz : ys.toArray.size ≤ sizeLine := by rw [sizeLine_eq]; simp [← h3.length]; omega
        refine call_meets F.slot_list_append h4.typeIs F.entry_list_append (F.args_list_append_2 _ _) (AutoListH.list_append_list_val_0 b ys.toArray n y hsz) ⟨h2, ?_⟩
        have hs : Keep [b] s.heap (s.heap.update b (Obj.mapSeq fun x => x.push y)) := .of_sameBut (Heap.SameBut.update ..)
        have hg : (s.heap.update b (Obj.mapSeq fun x => x.push y)).get? b = some (listObj (ys ++ [y]).toArray (n + 1)) := by
          rw [Heap.get?_update_self _ h2 rfl]
          show some (listObj (ys.toArray.push y) (if (ys.toArray.push y).size == ys.toArray.size then n else n + 1)) = _
          simp
        have kk : ImmKeep s.heap (s.heap.update b (Obj.mapSeq fun x => x.push y)) := r.1.toHRel.immKeep (hs.sub fun b m => by rw [List.mem_singleton] at m; subst m; exact mem_of_get? ha)
        exact ⟨ρ, .none, _, List.prefix_refl _, .upd ha hs, ⟨r.1.upd (o := .list (vs ++ [v])) ha hs hg ⟨_, _, rfl, VRs.append (h3.mono (List.prefix_refl _) kk) (.cons (v2.mono (List.prefix_refl _) kk) .nil)⟩, r.2⟩, .none, q⟩
end
end Mine
namespace Mine
open PySem PySem.W PyProof.Rows PySem.SeqAt

theorem slot_cit_iter : Slot "callable_iterator" "__iter__" "callable_iterator.__iter__" :=
  .of (owner := "callable_iterator") (n := "__iter__") (by rw [typeLookup_type, builtinLookup_eq_fast]; kernel_rfl) (by decide +kernel) (by decide +kernel) (by decide +kernel)
    (by first | exact .inl (by decide +kernel) | exact .inr (by decide +kernel)) (by rw [isSubtype_type]; kernel_rfl)
theorem slot_cit_next : Slot "callable_iterator" "__next__" "callable_iterator.__next__" :=
  .of (owner := "callable_iterator") (n := "__next__") (by rw [typeLookup_type, builtinLookup_eq_fast]; kernel_rfl) (by decide +kernel) (by decide +kernel) (by decide +kernel)
    (by first | exact .inl (by decide +kernel) | exact .inr (by decide +kernel)) (by rw [isSubtype_type]; kernel_rfl)
theorem entry_cit_next : entryFor table "callable_iterator.__next__" = some Builtin.«callable_iterator.__next__» := entryFor_of_fast (by kernel_rfl)
theorem entry_cit_iter : entryFor table "callable_iterator.__iter__" = some Builtin.«dict_keyiterator.__iter__» :=
  entryFor_alias (id' := "dict_keyiterator.__iter__") (by kernel_rfl) rfl (by decide +kernel) (by kernel_rfl)
theorem args_cit_iter (a : Value) : argsOk "callable_iterator.__iter__" ⟨[a], []⟩ := by unfold argsOk; kernel_rfl
theorem args_cit_next (a : Value) : argsOk "callable_iterator.__next__" ⟨[a], []⟩ := by unfold argsOk; kernel_rfl
theorem args_iter2 (a b : Value) : argsOk "iter" ⟨[a, b], []⟩ := by unfold argsOk; kernel_rfl
theorem look_method_call : ∃ r, typeLookup (.type "method") "__call__" = pure (some r) := by
  rw [typeLookup_type, builtinLookup_eq_fast]; exact ⟨.builtin "method.__call__", by kernel_rfl⟩

section
variable {c : Cx} {d k : Nat} {fx : Fx} {ρ ρ' ρ'' : List Addr} {σ σ' : St} {h h' h'' : Heap} {s s' s₁ : Shared} {A : Around} {Q : V → St → Prop} {X : Fl → St → Prop}
  {loc loc' : List (Str × V)} {hp hp' : List O}

theorem OVs.iter2 {f self v : V} (q : Q (.ref σ.hp.length) ⟨σ.loc, σ.hp ++ [.citer (some (.meth f self, v))]⟩) : OVs c d fx (fun xs => PySem.call (.builtin "iter") xs) [.meth f self, v] σ Q := fun ρ s A xs R r va => by
  obtain ⟨loc, hp⟩ := σ
  cases va using VRs.consC with
  | cons v1 v2 =>
    cases v2 using VRs.consC with
    | cons v2 v3 =>
      cases v3 using VRs.nilC
      cases v1 using VR.methC with
      | meth ho hf hs =>
        rename_i y a f' self'
        refine Calls.call_function_entry (by decide +kernel) (by decide +kernel) kdk_entry_iter (args_iter2 _ _) ?_
        unfold Builtin.«iter»
        refine wpAny_bind (m := someArgs "iter" 1 2 _) (wpAny_of_eq (a := [Value.ref a, y]) (by first | rfl | kernel_rfl!) ?_)
        obtain ⟨m, hm⟩ := look_method_call
        refine wpAny_bind (wpAny_specialOf (T := "method") ⟨_, ho, rfl⟩ hm ?_)
        refine wpAny_bind (wpAny_rule (wpAny_bind (wpAny_newObj_type (wpAny_pure ⟨_, rfl, ?_⟩))))
        have vm : VR ρ s.heap (.meth f self) (.ref a) := .meth ho hf hs
        exact ⟨ρ ++ [s.heap.objs.size], _, _, pre_snoc _ _, .alloc _, ⟨r.1.alloc (o := .citer (some (.meth f self, v))) rfl ⟨_, _, _, rfl, rfl, (vm.push _).mono (pre_snoc _ _) (.refl _), (v2.push _).mono (pre_snoc _ _) (.refl _)⟩, r.2⟩,
          .ref (by rw [← r.1.len, List.getElem?_append_right (Nat.le_refl _), Nat.sub_self]; rfl), q⟩

theorem callBorrowed_wp {M : Model} {E : Value → Shared → Prop} {R : Value → Shared → Prop} {prog : Program} {w : World} {f : Value} {pos : List Value}
    (h : codeAny (model prog w) A (.call f ⟨pos, []⟩) (fun r s' => match r with | .ok (.ret v) => R v s' | .ok _ => False | .error e => E e s') s) : wpAny (model prog w) A (callBorrowed f pos) R E s := by
  unfold callBorrowed
  refine X.x_call ?_ (by intro e; cases e)
  rw [Around.mark_none]
  refine codeAny_mono h fun r s' z => ?_
  match r, z with
  | .ok (.ret v), z => exact wpAny_pure z
  | .error e, z => exact wpAny_throw z

noncomputable def FnTop (K : Frag) (f : Addr) : Prop := ∃ oc od fd osl, K.lookup f = some ⟨oc, od, .func fd, osl⟩
theorem borrows_wp {M : Model} {E : Value → Shared → Prop} {R : Bool → Shared → Prop} {a f : Addr} {self : Value} {o : Obj} {fd : FuncData} (hm : s.heap.get? a = some (methodObj (.ref f) self)) (hf : s.heap.get? f = some o) (hd : o.data = .func fd)
    (q : R true s) : wpAny M A (borrowsExactly (.ref a)) R E s := by
  unfold borrowsExactly
  refine wpAny_bind (wpAny_load hm ?_)
  refine wpAny_bind (wpAny_load hf ?_)
  rw [hd]; exact wpAny_pure q
theorem stop_wp {α : Type} {prog : Program} {w : World} {s : Shared} {P : α → Shared → Prop} {R : Option Value → Shared → Prop} {E : Value → Shared → Prop} (hh : A.handled = none) (h : ∀ h', (∀ b o, s.heap.get? b = some o → h'.get? b = some o) → R none { s with heap := h' }) :
    wpAny (model prog w) A.in1 (Builtin.SmallTypes.stopIteration (α := α)) P (fun e s' => wpAny (model prog w) A (do if ← isInstance e (.type "StopIteration") then pure none else throw e) R E s') s := by
  show wpAny _ _ (newExc (.type "StopIteration") [] >>= _) _ _ _
  refine wpAny_bind ?_
  simp only [newExc, newTuple]
  refine wpAny_bind (wpAny_newObj_type ?_ (by size_fits))
  refine wpAny_bind (m := firstArgMember _ _) (wpAny_of_eq (a := Value.none) (by first | rfl | (simp only [firstArgMember]; rfl)) ?_)
  refine wpAny_newObj_type ?_ (by size_fits)
  simp only [raiseNew]
  refine wpAny_bind (wpAny_handled ?_)
  rw [show A.in1.handled = none from hh]
  refine wpAny_bind (wpAny_pure (wpAny_throw ?_))
  refine wpAny_bind (wpAny_isInstance (T := "StopIteration") (b := true) ⟨_, Heap.get?_push_size _ rfl, rfl⟩ isSubtype_stop ?_)
  exact wpAny_pure (h _ fun b o e => Heap.get?_push_of_some _ (Heap.get?_push_of_some _ e))

theorem nextEnded {i : Nat} {it : Addr} {R : Option Value → Shared → Prop} {E : Value → Shared → Prop} (hh : A.handled = none) (r : RelS c fx ρ σ s) (hi : ρ[i]? = some it) (ho : σ.hp[i]? = some (.citer none))
    (h : ∀ s', Ext fx ρ s.heap ρ s'.heap → RelS c fx ρ σ s' → R none s') : wpAny c.M A (pyNext (.ref it)) R E s := by
  obtain ⟨x, h1, y1, y2, b, rfl, hb⟩ := r.1.obj i it _ hi ho
  subst hb
  unfold pyNext
  refine wpAny_bind (wpAny_attempt (wpAny_callSpecial?_slot (name := Str.ofString "__next__") ⟨_, h1, rfl⟩ slot_cit_next
    (wpAny_call_entry slot_cit_next ⟨_, h1, rfl⟩ entry_cit_next ?_ (args_cit_next _))))
  show wpAny _ _ (field (.ref it) 2 >>= _) _ _ s
  refine wpAny_bind (wpAny_field h1 rfl (x := .bool true) rfl ?_)
  refine wpAny_bind (wpAny_rule ?_)
  exact wpAny_bind (stop_wp (R := R) (E := E) hh fun h' hk => h _ (.ext hk) ⟨r.1.ext hk, r.2⟩)

theorem nextC {i : Nat} {it f : Addr} {self : V} {sl : List Nat} {R : Option Value → Shared → Prop} {E : Value → Shared → Prop} {G1 : List Nat → List O → Prop} {G2 : List O → Prop}
    (Rm : Room (k + 1) A) (r : RelS c fx ρ σ s) (hi : ρ[i]? = some it) (ho : σ.hp[i]? = some (.citer (some (.meth (.top f) self, .str sl)))) (hf : FnTop c.K f)
    (hF : FV c k (.meth (.top f) self) [] σ.hp (fun v hp' => ∃ l, v = .str l ∧ hp'[i]? = some (.citer (some (.meth (.top f) self, .str sl))) ∧ (if l = sl then G2 (hp'.set i (.citer none)) else G1 l hp')))
    (h1 : ∀ ρ' s' l x hp', ρ <+: ρ' → Ext fx ρ s.heap ρ' s'.heap → RelS c fx ρ' ⟨σ.loc, hp'⟩ s' → VR ρ' s'.heap (.str l) x → G1 l hp' → R (some x) s')
    (h2 : ∀ ρ' s' hp', ρ <+: ρ' → Ext fx ρ s.heap ρ' s'.heap → RelS c fx ρ' ⟨σ.loc, hp'⟩ s' → G2 hp' → R none s') : wpAny c.M A (pyNext (.ref it)) R E s := by
  obtain ⟨loc, hp⟩ := σ
  obtain ⟨x, g1, y1, y2, b, rfl, rfl, vm, vs⟩ := r.1.obj i it _ hi ho
  obtain ⟨oc, od, fd, osl, hK⟩ := hf
  unfold pyNext
  refine wpAny_bind (wpAny_attempt (wpAny_callSpecial?_slot (name := Str.ofString "__next__") ⟨_, g1, rfl⟩ slot_cit_next
    (wpAny_call_entry slot_cit_next ⟨_, g1, rfl⟩ entry_cit_next ?_ (args_cit_next _))))
  show wpAny _ _ (field (.ref it) 2 >>= _) _ _ s
  refine wpAny_bind (wpAny_field g1 rfl (x := .bool false) rfl ?_)
  show wpAny _ _ (field (.ref it) 0 >>= _) _ _ s
  refine wpAny_bind (wpAny_field g1 rfl (x := y1) rfl ?_)
  refine wpAny_bind (wpAny_attempt ?_)
  cases vm using VR.methC with
  | meth hm hf hs =>
    rename_i a f' self'
    cases hf
    unfold callOutOfASlot
    refine wpAny_bind (borrows_wp hm ((r.1.ok.k.keeps r.1.keep) _ _ hK) rfl ?_)
    rw [if_pos rfl]
    refine callBorrowed_wp (M := c.M) (codeAny_mono (hF ρ s A.in1 (.ref a) [] Rm.in1 r.1.ok ⟨r.1.toHRel, r.2⟩ (.meth hm (.top f) hs) .nil) ?_)
    rintro _ s₁ ⟨ρ₁, v, hp₁, y, rfl, e₁, r₁, v₁, l, rfl, ho₁, hq⟩
    have r₂ : RelS c fx ρ₁ ⟨loc, hp₁⟩ s₁ := ⟨r.1.after e₁ r₁.1, r₁.2⟩
    obtain ⟨x', g2, z1, z2, b', rfl, rfl, vm', vs'⟩ := r₂.1.obj i it _ (pre_get e₁.pre hi) ho₁
    show wpAny _ _ (field (.ref it) 2 >>= _) _ _ s₁
    refine wpAny_bind (wpAny_field g2 rfl (x := .bool false) rfl ?_)
    show wpAny _ _ (field (.ref it) 1 >>= _) _ _ s₁
    refine wpAny_bind (wpAny_field g2 rfl (x := z2) rfl ?_)
    cases v₁ using VR.strC with
    | str t e =>
      cases vs' using VR.strC with
      | str t' e' =>
        rename_i w1 w2
        refine wpAny_bind (wpAny_holding (wpAny_eqBool_str ?_))
        by_cases hl : l = sl
        · have hw : w2 = w1 := by rw [str_eq_of e', str_eq_of e, hl]
          subst hw
          rw [if_pos hl] at hq
          simp only [decide_true]
          refine wpAny_bind (wpAny_rule ?_)
          refine wpAny_bind ?_
          show wpAny _ _ (field (.ref it) 0 >>= _) _ _ s₁
          refine wpAny_bind (wpAny_field g2 rfl (x := z1) rfl ?_)
          refine wpAny_bind ?_
          cases vm' using VR.methC with
          | meth hm' hf' hs' =>
            cases hf'
            unfold slotLetsGo
            refine wpAny_bind (borrows_wp hm' ((r₂.1.ok.k.keeps r₂.1.keep) _ _ hK) rfl ?_)
            rw [if_pos rfl]
            refine wpAny_pure ?_
            refine wpAny_bind (wpAny_setField_rec g2 (by simp) fun h₃ g3 k3 => ?_)
            refine wpAny_bind (wpAny_setField_rec g3 (by simp) fun h₄ g4 k4 => ?_)
            refine wpAny_setField_rec g4 (by simp) fun h₅ g5 k5 => ?_
            have kk : Keep [it] s₁.heap h₅ := ((Keep.of_sameBut k3).trans (Keep.of_sameBut k4)).trans (Keep.of_sameBut k5)
            have r₅ : Rel c fx ρ₁ ⟨loc, hp₁.set i (.citer none)⟩ h₅ := r₂.1.upd (pre_get e₁.pre hi) kk g5 ⟨_, _, _, rfl, rfl⟩
            refine stop_wp (R := R) (E := E) Rm.handled fun h' hk => ?_
            have e5 : Ext fx ρ₁ s₁.heap ρ₁ h₅ := .upd (pre_get e₁.pre hi) kk
            exact h2 ρ₁ _ _ e₁.pre ((e₁.ext.trans e5 r₂.1.hasL).trans (.ext hk) r₅.hasL) ⟨r₅.ext hk, r₂.2⟩ hq
        · have hw : w2 ≠ w1 := fun q => hl (by rw [← e, ← e', q])
          rw [if_neg hl] at hq
          simp only [hw, decide_false]
          exact wpAny_pure ⟨_, rfl, wpAny_pure (h1 ρ₁ s₁ l _ hp₁ e₁.pre e₁.ext r₂ (.str t e) hq)⟩
end
end Mine
namespace Mine
open PySem PySem.W PyProof.Rows PySem.SeqAt

section
variable {c : Cx} {d k : Nat} {fx : Fx} {ρ ρ' ρ'' : List Addr} {σ σ' : St} {h h' h'' : Heap} {s s' s₁ : Shared} {A : Around} {Q : V → St → Prop} {X : Fl → St → Prop}
  {loc loc' : List (Str × V)} {hp hp' : List O}

theorem pyIterC {i : Nat} {it : Addr} {st : Option (V × V)} {R : Value → Shared → Prop} {E : Value → Shared → Prop} (r : RelS c fx ρ σ s) (hi : ρ[i]? = some it) (ho : σ.hp[i]? = some (.citer st)) (h : R (.ref it) s) : wpAny c.M A (pyIter (.ref it)) R E s := by
  obtain ⟨x, g1, y1, y2, b, rfl, hb⟩ := r.1.obj i it _ hi ho
  refine wpAny_pyIter_slot ⟨_, g1, rfl⟩ slot_cit_iter (wpAny_call_entry slot_cit_iter ⟨_, g1, rfl⟩ entry_cit_iter ?_ (args_cit_iter _))
  show wpAny _ _ (ret (.ref it)) _ _ s
  exact wpAny_pure ⟨_, rfl, "callable_iterator", _, ⟨_, g1, rfl⟩, slot_cit_next.lookup, h⟩

noncomputable abbrev turnC (I : Nat → St → Prop) (n : Nat) (X : Fl → St → Prop) : Fl → St → Prop := fun f σ₂ => match f with
  | .next => ∃ m, m < n ∧ I m σ₂
  | .cont => ∃ m, m < n ∧ I m σ₂
  | .brk => X .next σ₂
  | .ret v => X (.ret v) σ₂
noncomputable def TurnC (c : Cx) (d k : Nat) (fx : Fx) (i : Nat) (target : Expr) (body : List Stmt) (I : Nat → St → Prop) (X : Fl → St → Prop) (n : Nat) (σ : St) : Prop :=
  (σ.hp[i]? = some (.citer none) ∧ X .next σ) ∨
  ∃ f self sl, σ.hp[i]? = some (.citer (some (.meth (.top f) self, .str sl))) ∧ FnTop c.K f ∧
    FV c k (.meth (.top f) self) [] σ.hp (fun v hp' => ∃ l, v = .str l ∧ hp'[i]? = some (.citer (some (.meth (.top f) self, .str sl))) ∧
      (if l = sl then X .next ⟨σ.loc, hp'.set i (.citer none)⟩
        else OU1 c d fx (fun y => PySem.assign target fx.env y) (.str l) ⟨σ.loc, hp'⟩ (fun _ σ₁ => XV c d fx (execs body fx.env) σ₁ (turnC I n X))))

theorem XV.forC {target iter : Expr} {body : List Stmt} {pos : Pos} (k : Nat) (h : EV c d fx (eval iter fx.env) σ (fun v σ₁ => ∃ i st, v = .ref i ∧ σ₁.hp[i]? = some (.citer st) ∧ ∃ (I : Nat → St → Prop) (n : Nat), I n σ₁ ∧
      (∀ ρ₀, ρ₀.length = σ₁.hp.length → ∀ n σ, I n σ → TurnC c d k { fx with ρ₀ := ρ₀ } i target body I X n σ)))
    (hkd : k + 1 ≤ d := by decide) (hs : ∀ x, foldedSetIterable iter fx.env x = pure x := by intro _; rfl) (ht : ∀ s : Shared, ∀ it, ∀ v, letOwnedTupleGo target (.ref it) v = pure () := by intros; rfl) : XV c d fx (exec (.For target iter body [] pos) fx.env) σ X := fun ρ s A R r => by
  refine wpAny_For (wpAny_mono (h ρ s A R r) ?_ fun _ _ e => e) hs
  rintro x s₁ ⟨ρ₁, _, σ₁, p₁, e₁, r₁, v₁, i, st, rfl, hl, I, n, i0, turn⟩
  cases v₁ using VR.refC with
  | ref ha =>
    rename_i a
    refine pyIterC r₁ ha hl ?_
    have hcl := r₁.1.cells
    have hpre := r₁.1.pre
    have Rk : Room (k + 1) A := R.le hkd
    refine codeAny_mono (codeAny_forLoop (R := fun r s' => match r with | .ok f => PostX c fx ρ s X f s' | .error e => cameBackBy c.M A fx.env noE e s') (fun m s' => ∃ ρ' σ', Ext fx ρ s.heap ρ' s'.heap ∧ RelS c { fx with ρ₀ := ρ₁ } ρ' σ' s' ∧ I m σ') ?_ n ⟨ρ₁, σ₁, e₁, ⟨r₁.1.floor r₁.1.pre (List.prefix_refl _), r₁.2⟩, i0⟩ (ht s _)) ?_
    · rintro m s₂ ⟨ρ₂, σ₂, e₂, r₂, hI⟩
      have ha₂ : ρ₂[i]? = some a := pre_get r₂.1.pre ha
      have un : ∀ {ρ₃ σ₃ s₃}, RelS c { fx with ρ₀ := ρ₁ } ρ₃ σ₃ s₃ → RelS c fx ρ₃ σ₃ s₃ := fun r₃ => ⟨r₃.1.unfloor hpre hcl, r₃.2⟩
      have ex : ∀ {ρ₃ ρ₄ h₃ h₄}, Ext { fx with ρ₀ := ρ₁ } ρ₃ h₃ ρ₄ h₄ → Ext fx ρ₃ h₃ ρ₄ h₄ := fun e => ⟨e.new, e.keep⟩
      rcases turn ρ₁ r₁.1.len m σ₂ hI with ⟨g1, g2⟩ | ⟨f, self, sl, g1, g2, g3⟩
      · refine nextEnded R.handled r₂ ha₂ g1 fun s₃ e₃ r₃ => ?_
        exact wpAny_execs_nil ⟨ρ₂, .next, σ₂, e₂.trans (ex e₃) (un r₂).1.hasL, un r₃, .next, g2⟩
      · refine nextC (G2 := fun hp' => X .next ⟨σ₂.loc, hp'⟩) (G1 := fun l hp' => OU1 c d { fx with ρ₀ := ρ₁ } (fun y => PySem.assign target fx.env y) (.str l) ⟨σ₂.loc, hp'⟩ (fun _ σ₁ => XV c d { fx with ρ₀ := ρ₁ } (execs body fx.env) σ₁ (turnC I m X))) Rk r₂ ha₂ g1 g2 g3 (fun ρ₃ s₃ l x hp₃ p₃ e₃ r₃ v₃ h₃ => ?_) fun ρ₃ s₃ hp₃ p₃ e₃ r₃ h₃ => ?_
        · have e3 := e₂.trans (ex e₃) (un r₂).1.hasL
          refine wpAny_mono (h₃ ρ₃ s₃ A x R r₃ v₃) ?_ fun _ _ z => z.elim
          rintro _ s₄ ⟨ρ₄, σ₄, p₄, e₄, r₄, h₄⟩
          have e4 := e3.trans (ex e₄) (un r₃).1.hasL
          refine wpAny_mono (h₄ ρ₄ s₄ A R r₄) ?_ fun _ _ z => z.elim
          rintro fl s₅ ⟨ρ₅, fl', σ₅, e₅, r₅, hf, h₅⟩
          have e5 := e4.trans (ex e₅) (un r₄).1.hasL
          cases hf with
          | next => obtain ⟨m', hm, hi⟩ := h₅; exact ⟨m', hm, ρ₅, σ₅, e5, r₅, hi⟩
          | cont => obtain ⟨m', hm, hi⟩ := h₅; exact ⟨m', hm, ρ₅, σ₅, e5, r₅, hi⟩
          | brk => exact ⟨ρ₅, .next, σ₅, e5, un r₅, .next, h₅⟩
          | ret hv => exact ⟨ρ₅, _, σ₅, e5, un r₅, .ret hv, h₅⟩
        · exact wpAny_execs_nil ⟨ρ₃, .next, _, e₂.trans (ex e₃) (un r₂).1.hasL, un r₃, .next, h₃⟩
    · rintro (e | f) s' z
      · exact z
      · exact z
end
end Mine
namespace Mine
open PySem PySem.W PyProof.Rows PySem.SeqAt

noncomputable def cloV (cl : List (Str × Nat)) : List (Str × NameKind) → List (Str × Nat) → Option (List (Str × Nat))
  | [], acc => some acc
  | (n, k) :: r, acc => if k == .free then (match cl.lookup n with | some i => cloV cl r ((n, i) :: acc) | none => none) else cloV cl r acc
theorem closure_go {ρ : List Addr} {cl : List (Str × Nat)} {env : Env} (hc : ClR ρ cl env.cells) : ∀ (names : List (Str × NameKind)) {acc : List (Str × Nat)} {acc' : List (Str × Addr)} {cl' : List (Str × Nat)}, ClR ρ acc acc' → cloV cl names acc = some cl' →
    ∃ clos, (forIn names acc' (fun (x : Str × NameKind) cs => (do
      if x.2 == .free then do let a ← cellOf env x.1; pure (ForInStep.yield ((x.1, a) :: cs)) else pure (ForInStep.yield cs) : Sem (ForInStep (List (Str × Addr)))))) = (pure clos : Sem (List (Str × Addr))) ∧ ClR ρ cl' clos
  | [], acc, acc', cl', ha, e => by cases e; exact ⟨acc', rfl, ha⟩
  | (n, k) :: r, acc, acc', cl', ha, e => by
    rw [cloV] at e
    rw [List.forIn_cons]
    cases hk : k == .free with
    | true =>
      rw [hk] at e
      simp only [if_true] at e ⊢
      cases hl : cl.lookup n with
      | none => rw [hl] at e; cases e
      | some i =>
        rw [hl] at e
        obtain ⟨a, h1, h2⟩ := hc.look hl
        have : cellOf env n = pure a := by unfold cellOf; rw [h1]
        rw [this]
        obtain ⟨clos, h3, h4⟩ := closure_go hc r (acc' := (n, a) :: acc') (acc := (n, i) :: acc) ⟨rfl, h2, ha⟩ e
        exact ⟨clos, h3, h4⟩
    | false =>
      rw [hk] at e
      obtain ⟨clos, h3, h4⟩ := closure_go hc r ha e
      exact ⟨clos, h3, h4⟩
theorem closure_V {ρ : List Addr} {cl cl' : List (Str × Nat)} {env : Env} {scope : Scope} (hc : ClR ρ cl env.cells) (e : cloV cl scope.names [] = some cl') : ∃ clos, closureFor scope env = pure clos ∧ ClR ρ cl' clos := by
  obtain ⟨clos, h1, h2⟩ := closure_go hc scope.names (acc := []) (acc' := []) trivial e
  refine ⟨clos, ?_, h2⟩
  unfold closureFor
  show (forIn scope.names [] _ >>= fun cs => pure cs) = _
  rw [show (forIn scope.names ([] : List (Str × Addr)) _ : Sem _) = pure clos from h1]
  rfl

section
variable {M : Model} {A : Around} {E : Value → Shared → Prop} {s : Shared} {name qual : Str} {params : Arguments} {body : List Stmt} {scope : Scope} {env : Env} {c P : Addr} {ps : Array Value} {pos : Pos} {firstLine : Nat} {mg : Str → Option Value}
  {clos : List (Str × Addr)} {Q : Value → Shared → Prop}
theorem makeTail_V (hcl : closureFor scope env = pure clos) (hge0 : env.globals = mainGlobals) (hg : s.heap.Ns mainGlobals mg) (hcode : env.code = .ref c) (C : CodeHd s.heap c P) (hP : s.heap.get? P = some (tabObj ps)) (ht : TriplesOk ps.toList)
    (hnf : codeAmong pos ps.toList = none) (hgP : mainGlobals ≠ P) (hb : s.heap.BuiltinsAt mg P)
    (h : ∀ c' ctv doc h' tk, Heap.ExtBut P s.heap h' → CodeR h' c' qual → h'.get? P = some (tabObj (ps ++ #[rawInt pos.line, rawInt pos.col, .ref c'])) →
      Q (.ref h'.objs.size) { s with heap := h'.push (fnMade name qual params body scope clos doc ((mg "__name__").getD .none) c' ctv), toks := tk }) :
    wpAny M A (makeTail name qual params (.stmts body) scope env .none .none none pos firstLine) Q E s := by
  obtain ⟨bm, ob, hbm, hne0, _, hneP, hbo, hcls, hdict, hdata⟩ := hb
  have cr : ∀ {h' : Heap} {c' : Addr}, h'.CodeRec (.ref c') qual → (∃ P', (∃ o vs, h'.get? c' = some o ∧ o.cls = .type "code" ∧ o.data = .fields vs ∧ vs[11]? = some (.ref P'))) → CodeR h' c' qual := fun {h' c'} hrec htb => by
    obtain ⟨c2, oc, vs, t, e2, hoc, hd, hv⟩ := hrec
    cases e2
    obtain ⟨P', o, vs', e, hc, _⟩ := htb
    rw [hoc] at e; cases e
    exact ⟨oc, vs, t, hoc, hc, hd, hv⟩
  unfold makeTail
  rw [hcl, hge0]
  refine wpAny_bind (wpAny_pure ?_)
  cases clos with
  | nil =>
    simp only [List.isEmpty_nil, if_true]
    refine wpAny_bind (wpAny_pure ?_)
    refine wpAny_bind (wpAny_functionCodeX hcode (C.code hP ht) (C.tab hP) hnf fun c' h' tk hx hge hlt _ hrec htb ⟨P', _, _, hT'⟩ => ?_)
    have hg' := hg.extBut hx hgP
    refine wpAny_bind (wpAny_builtinsFor hg' hbm hne0 (hx _ _ hneP hbo) hcls hdict hdata ?_)
    refine wpAny_bind (wpAny_nsGet hg' ?_)
    cases hdoc : docOf body with
    | none => exact wpAny_bind (wpAny_pure (wpAny_newObj_type (h c' .none .none h' tk hx (cr hrec ⟨P', hT'.1⟩) htb.2) (by size_fits)))
    | some t => exact wpAny_bind (wpAny_mkText (wpAny_newObj_type (h c' .none _ h' _ hx (cr hrec ⟨P', hT'.1⟩) htb.2) (by size_fits)))
  | cons q r =>
    simp only [List.isEmpty_cons, Bool.false_eq_true, if_false]
    refine wpAny_bind (wpAny_newTextTuple ?_)
    refine wpAny_bind (wpAny_functionCodeX hcode ((C.keeps fun b o e => Heap.get?_push_of_some _ e).code (Heap.get?_push_of_some _ hP) ht) ((C.keeps fun b o e => Heap.get?_push_of_some _ e).tab (Heap.get?_push_of_some _ hP)) hnf fun c' h' tk hx hge hlt _ hrec htb ⟨P', _, _, hT'⟩ => ?_)
    have hg' := (hg.push _).extBut hx hgP
    have hx' : Heap.ExtBut P s.heap h' := fun b o hb' e => hx b o hb' (Heap.get?_push_of_some _ e)
    refine wpAny_bind (wpAny_builtinsFor hg' hbm hne0 (hx' _ _ hneP hbo) hcls hdict hdata ?_)
    refine wpAny_bind (wpAny_nsGet hg' ?_)
    cases hdoc : docOf body with
    | none => exact wpAny_bind (wpAny_pure (wpAny_newObj_type (h c' _ .none h' tk hx' (cr hrec ⟨P', hT'.1⟩) htb.2) (by size_fits)))
    | some t => exact wpAny_bind (wpAny_mkText (wpAny_newObj_type (h c' _ _ h' _ hx' (cr hrec ⟨P', hT'.1⟩) htb.2) (by size_fits)))
theorem makeFunction_V (hcl : closureFor scope env = pure clos) (hge0 : env.globals = mainGlobals) (hg : s.heap.Ns mainGlobals mg) (hcode : env.code = .ref c) (C : CodeHd s.heap c P) (hP : s.heap.get? P = some (tabObj ps)) (ht : TriplesOk ps.toList)
    (hnf : codeAmong pos ps.toList = none) (hgP : mainGlobals ≠ P) (hb : s.heap.BuiltinsAt mg P)
    (h : ∀ c' ctv doc h' tk, Heap.ExtBut P s.heap h' → CodeR h' c' qual → h'.get? P = some (tabObj (ps ++ #[rawInt pos.line, rawInt pos.col, .ref c'])) →
      Q (.ref h'.objs.size) { s with heap := h'.push (fnMade name qual params body scope clos doc ((mg "__name__").getD .none) c' ctv), toks := tk }) :
    wpAny M A (makeFunction name qual params (.stmts body) scope env [] [] [] pos firstLine) Q E s := by
  rw [makeFunction_eq]
  simp only [List.zip_nil_right, List.filterMap_nil, List.isEmpty_nil, if_true, pure_bind]
  exact makeTail_V hcl hge0 hg hcode C hP ht hnf hgP hb h
end

section
variable {c : Cx} {d k : Nat} {fx : Fx} {ρ ρ' ρ'' : List Addr} {σ σ' : St} {h h' h'' : Heap} {s s' s₁ : Shared} {A : Around} {Q : V → St → Prop} {X : Fl → St → Prop}
  {loc loc' : List (Str × V)} {hp hp' : List O}

theorem set_same {α : Type} : ∀ {l : List α} {i : Nat} {x : α}, l[i]? = some x → l.set i x = l
  | [], _, _, e => by simp at e
  | a :: l, 0, x, e => by simp at e; subst e; rfl
  | a :: l, i + 1, x, e => by simp at e; simp [set_same e]

noncomputable def samePos (p q : Pos) : Bool := (p.line : Int) == q.line && (p.col : Int) == q.col
inductive TabStep (pos : Pos) (qual : Str) : List (Pos × Str) → List (Pos × Str) → Prop
  | new {l : List (Pos × Str)} : l.all (fun p => !samePos p.1 pos) = true → TabStep pos qual l (l ++ [(pos, qual)])
  | hit {a b : List (Pos × Str)} : a.all (fun p => !samePos p.1 pos) = true → TabStep pos qual (a ++ (pos, qual) :: b) (a ++ (pos, qual) :: b)
theorem TabR.miss {pos : Pos} : ∀ {l : List (Pos × Str)} {xs : List Value}, TabR h l xs → l.all (fun p => !samePos p.1 pos) = true → codeAmong pos xs = none
  | [], _, e, _ => by rw [show _ = [] from e]; rfl
  | (p, q) :: r, _, ⟨c, rest, e, _, b⟩, hn => by
    rw [List.all_cons, Bool.and_eq_true] at hn
    have h1 : samePos p pos = false := by simpa using hn.1
    rw [e]
    show (if samePos p pos then some _ else codeAmong pos rest) = none
    rw [h1]
    exact TabR.miss b hn.2
theorem TabR.hit {pos : Pos} {qual : Str} {b : List (Pos × Str)} : ∀ {a : List (Pos × Str)} {xs : List Value}, TabR h (a ++ (pos, qual) :: b) xs → a.all (fun p => !samePos p.1 pos) = true → ∃ c, codeAmong pos xs = some (.ref c) ∧ CodeR h c qual
  | [], _, ⟨c, rest, e, k, _⟩, _ => by
    refine ⟨c, ?_, k⟩
    rw [e]
    show (if samePos pos pos then some (Value.ref c) else codeAmong pos rest) = _
    rw [show samePos pos pos = true by simp [samePos]]; rfl
  | (p, q) :: r, _, ⟨c, rest, e, _, k⟩, hn => by
    rw [List.all_cons, Bool.and_eq_true] at hn
    have h1 : samePos p pos = false := by simpa using hn.1
    obtain ⟨c', h2, h3⟩ := TabR.hit (a := r) k hn.2
    refine ⟨c', ?_, h3⟩
    rw [e]
    show (if samePos p pos then some _ else codeAmong pos rest) = _
    rw [h1]; exact h2
theorem TabR.snoc {pos : Pos} {qual : Str} {c' : Addr} (k : CodeR h c' qual) : ∀ {l : List (Pos × Str)} {xs : List Value}, TabR h l xs → TabR h (l ++ [(pos, qual)]) (xs ++ [rawInt pos.line, rawInt pos.col, .ref c'])
  | [], _, e => by rw [show _ = [] from e]; exact ⟨c', [], rfl, k, rfl⟩
  | (p, q) :: r, _, ⟨c, rest, e, k1, k2⟩ => by rw [e]; exact ⟨c, _, rfl, k1, k2.snoc k⟩
theorem makeFnV {name qual : Str} {params : Arguments} {body : List Stmt} {scope : Scope} {pos : Pos} {line : Nat} {cc P : Addr} {i : Nat} {pi pi' : List (Pos × Str)} {cl' : List (Str × Nat)} {R : Value → Shared → Prop}
    (r : RelS c fx ρ ⟨loc, hp⟩ s) (hcode : fx.env.code = .ref cc) (C : CodeHd c.H₀ cc P) (ho : hp[i]? = some (.tab P i pi)) (hpi : TabStep pos qual pi pi') (hcl : cloV fx.cl scope.names [] = some cl')
    (q : ∀ ρ' s' x, ρ <+: ρ' → Ext fx ρ s.heap ρ' s'.heap → RelS c fx ρ' ⟨loc, hp.set i (.tab P i pi') ++ [.fn ⟨name, qual, params, body, scope⟩ cl']⟩ s' → VR ρ' s'.heap (.ref hp.length) x → R x s') :
    wpAny c.M A (makeFunction name qual params (.stmts body) scope fx.env [] [] [] pos line) R noE s := by
  obtain ⟨clos, hc1, hc2⟩ := closure_V (r.1.cells.mono r.1.pre) hcl
  obtain ⟨aP, x, hP1, hP2, ps, hP3, rfl, ht, hps⟩ := r.1.toHRel.at ho
  have := Option.some.inj (hP1.symm.trans hP3); subst this
  have hgs := r.1.ok.t.g.keeps r.1.keep
  obtain ⟨bm, ob, b1, b2, b3, b4, b5, b6⟩ := r.1.ok.bm
  have hbo := r.1.keep _ _ b3
  have hgP : mainGlobals ≠ aP := fun q => by
    obtain ⟨o, es, ep, e, hd, _⟩ := hgs
    rw [q, hP2] at e; cases e; cases hd
  have hbP : bm ≠ aP := fun q => by
    rw [q, hP2] at hbo; cases hbo; cases b4
  have hbG : bm ≠ mainGlobals := fun q => by
    obtain ⟨o, es, ep, e, hd, _⟩ := hgs
    rw [q, e] at hbo; cases hbo; rw [hd] at b6; cases b6
  have hB : s.heap.BuiltinsAt c.mg aP := ⟨bm, ob, b1, b2, hbG, hbP, hbo, b4, b5, b6⟩
  cases hpi with
  | new hno =>
    refine makeFunction_V (mg := c.mg) hc1 r.1.glob hgs hcode (C.keeps r.1.keep) hP2 ht (hps.miss hno) hgP hB fun c' ctv doc h' tk hx hcr htb => ?_
    have kk : Keep [aP] s.heap h' := .of_extBut hx
    have r₁ : Rel c fx ρ ⟨loc, hp.set i (.tab aP i (pi ++ [(pos, qual)]))⟩ h' := r.1.upd hP1 kk htb ⟨_, hP1, rfl, by rw [Array.toList_append]; exact TriplesOk_snoc _ _ _ _ ht, by
      have ki : ImmKeep s.heap h' := r.1.toHRel.immKeep (kk.sub fun b m => by rw [List.mem_singleton] at m; subst m; exact mem_of_get? hP1)
      rw [Array.toList_append]; exact (hps.mono ki).snoc hcr⟩
    have hcr' := hcr.mono (h' := h'.push (fnMade name qual params body scope clos doc ((c.mg "__name__").getD .none) c' ctv)) fun _ _ _ e => Heap.get?_push_of_some _ e
    have r₂ := r₁.alloc (o := .fn ⟨name, qual, params, body, scope⟩ cl') (x := fnMade name qual params body scope clos doc ((c.mg "__name__").getD .none) c' ctv) rfl ⟨clos, doc, _, c', ctv, rfl, hc2.mono (pre_snoc _ _), hcr'⟩
    have e1 : Ext fx ρ s.heap ρ h' := .upd hP1 kk
    refine q _ _ _ (pre_snoc _ _) (e1.trans (.alloc _) r₁.hasL) ⟨r₂, r.2⟩ (.ref ?_)
    rw [← r.1.len, List.getElem?_append_right (Nat.le_refl _), Nat.sub_self]; rfl
  | hit hno =>
    obtain ⟨c', hfound, hcr⟩ := hps.hit hno
    refine makeFunction_hit (mg := c.mg) (cv := .ref c') hc1 r.1.glob hgs hcode (C.keeps r.1.keep) hP2 ht hfound hB fun ctv doc h' tk hk hsz => ?_
    have r₁ : Rel c fx ρ ⟨loc, hp⟩ h' := r.1.ext hk
    have hcr' := hcr.mono (h' := h'.push (fnMade name qual params body scope clos doc ((c.mg "__name__").getD .none) c' ctv)) fun _ _ _ e => Heap.get?_push_of_some _ (hk _ _ e)
    have r₂ := r₁.alloc (o := .fn ⟨name, qual, params, body, scope⟩ cl') (x := fnMade name qual params body scope clos doc ((c.mg "__name__").getD .none) c' ctv) rfl ⟨clos, doc, _, c', ctv, rfl, hc2.mono (pre_snoc _ _), hcr'⟩
    have e1 : Ext fx ρ s.heap ρ h' := .ext hk
    refine q _ _ _ (pre_snoc _ _) (e1.trans (.alloc _) r₁.hasL) ⟨?_, r.2⟩ (.ref ?_)
    · rw [set_same ho]; exact r₂
    · rw [← r.1.len, List.getElem?_append_right (Nat.le_refl _), Nat.sub_self]; rfl

theorem XV.def_ {name qual : Str} {params : Arguments} {body : List Stmt} {scope : Scope} {pos : Pos} {cc P : Addr} {i : Nat} {pi pi' : List (Pos × Str)} {cl' : List (Str × Nat)}
    (hcode : fx.env.code = .ref cc) (C : CodeHd c.H₀ cc P) (ho : σ.hp[i]? = some (.tab P i pi)) (hpi : TabStep pos qual pi pi') (hcl : cloV fx.cl scope.names [] = some cl')
    (q : X .next ⟨put name (.ref σ.hp.length) σ.loc, σ.hp.set i (.tab P i pi') ++ [.fn ⟨name, qual, params, body, scope⟩ cl']⟩)
    (hq : qualnameIn fx.env name name = qual := by rfl) (hx : fx.env.kindOf name = some .local := by rfl)
    (hd0 : params.defaults = [] := by rfl) (hk0 : params.kw_defaults = [] := by rfl) (ha : annTrees params none fx.env = [] := by rfl) :
    XV c d fx (exec (.FunctionDef name params body [] none [] scope none name pos) fx.env) σ X := fun ρ s A R r => by
  obtain ⟨loc, hp⟩ := σ
  subst hq
  refine nestDef_K hd0 hk0 ha (makeFnV r hcode C ho hpi hcl fun ρ' s' x p' e' r' v' => ?_)
  exact storeL r' v' (fun s'' e'' r'' => ⟨ρ', .next, _, e'.trans e'' r'.1.hasL, r'', .next, q⟩) hx
end
end Mine
namespace Mine
open PySem PySem.W PyProof.Rows PySem.SeqAt

section
variable {c : Cx} {d k : Nat} {fx : Fx} {ρ ρ' ρ'' : List Addr} {σ σ' : St} {h h' h'' : Heap} {s s' s₁ : Shared} {A : Around} {X : Fl → St → Prop}
  {loc loc' : List (Str × V)} {hp hp' : List O}

theorem Room.make (r : Room (k + 1) A) (C : Addr) (vals : List Value) : Room k (A.under (.builtin "type.__call__" ⟨.ref C :: vals, []⟩)) := by
  refine ⟨r.1, ?_, ?_⟩
  · have := r.2; rw [PyProof.Rows.depth_under_make]; omega
  · have := r.3; rw [PyProof.Rows.units_under_make]; omega

theorem FV.new {C fI : Addr} {vs : List V} {Q : V → List O → Prop} (hm : makesIn c.K C = true) (hi : findIn c.K (.ref C) "__init__" = some (some (.ref fI))) (hf : typeIn c.K (.ref fI) = some (.type "function"))
    (h : FV c k (.top fI) (.ref (hp.length + 1) :: vs) (hp ++ [.ns [], .inst C hp.length]) (fun v hp' => v = .none ∧ Q (.ref (hp.length + 1)) hp')) : FV c (k + 1) (.top C) vs hp Q := fun ρ s A x xs R ok r vf va => by
  cases vf using VR.topC
  have X := ok.k.keeps r.1.keep
  obtain ⟨hh, g, dd, t, os⟩ := s
  refine make_core (makes_of X hm) (looks_findIn X hi) (fun self => bind_fn X self hf) (.inl rfl) ?_
  have r1 : HRel c (ρ ++ [hh.objs.size]) (hp ++ [.ns []]) (hh.push emptyDict) := r.1.alloc (o := .ns []) rfl ⟨[], _, rfl, trivial⟩
  have r2 : HRel c (ρ ++ [hh.objs.size] ++ [(hh.push emptyDict).objs.size]) (hp ++ [.ns []] ++ [.inst C hp.length]) ((hh.push emptyDict).push (instObj C hh.objs.size)) :=
    r1.alloc (o := .inst C hp.length) (x := instObj C hh.objs.size) rfl ⟨hh.objs.size, by rw [← r.1.len]; simp, rfl⟩
  rw [List.append_assoc, List.append_assoc, Heap.size_push] at r2
  have pr : ρ <+: ρ ++ ([hh.objs.size] ++ [hh.objs.size + 1]) := List.prefix_append ..
  have kk : ∀ b o, hh.get? b = some o → ((hh.push emptyDict).push (instObj C hh.objs.size)).get? b = some o := fun b o e => Heap.get?_push_of_some _ (Heap.get?_push_of_some _ e)
  have hw := h (ρ ++ ([hh.objs.size] ++ [hh.objs.size + 1])) ⟨(hh.push emptyDict).push (instObj C hh.objs.size), g, dd, t, os⟩ _ (.ref fI) (.ref (hh.objs.size + 1) :: xs) (R.make C xs) ok ⟨r2, r.2⟩ (.top fI)
    (.cons (.ref (by rw [← r.1.len]; simp)) (va.mono pr fun b o _ e => kk b o e))
  refine codeAny_mono hw ?_
  rintro _ s' ⟨ρ', v, hp', y, rfl, e', r', v', rfl, q⟩
  cases v' using VR.noneC
  refine ⟨rfl, ρ', .ref (hp.length + 1), hp', _, rfl, ⟨pr.trans e'.pre, fun a m => ?_, fun b o n e => e'.keep b o (fun m => ?_) (kk b o e)⟩, r', .ref (pre_get e'.pre (by rw [← r.1.len]; simp)), q⟩
  · rcases e'.new a m with m | z
    · rcases List.mem_append.mp m with m | m
      · exact .inl m
      · right
        refine get_none_of_lt ?_
        simp at m
        rcases m with rfl | rfl
        · exact Nat.le_refl _
        · exact Nat.le_succ _
    · right
      cases y : hh.get? a with
      | none => rfl
      | some o => have := kk _ _ y; rw [show ((hh.push emptyDict).push (instObj C hh.objs.size)).get? a = none from z] at this; cases this
  · rcases List.mem_append.mp m with m | m
    · exact n m
    · have lt : b < hh.objs.size := Heap.lt_size e
      simp at m
      rcases m with rfl | rfl
      · exact Nat.lt_irrefl _ lt
      · have lt' : hh.objs.size + 1 < hh.objs.size := lt
        omega

theorem TV.mono {e : Expr} {σ : St} {Q Q' : Bool → St → Prop} (h : TV c d fx e σ Q) (k : ∀ b σ, Q b σ → Q' b σ) : TV c d fx e σ Q' := fun ρ s A R r =>
  wpAny_mono (h ρ s A R r) (fun _ _ ⟨ρ', σ', p, e, r, q⟩ => ⟨ρ', σ', p, e, r, k _ _ q⟩) fun _ _ z => z
inductive IfI (A B : St → Prop) (b : Bool) (σ : St) : Prop
  | mk (t : b = true → A σ) (f : b = false → B σ) : IfI A B b σ
theorem XV.ifB {test : Expr} {body orelse : List Stmt} {pos : Pos} {σ : St} (h : TV c d fx test σ (IfI (fun σ₁ => XV c d fx (execs body fx.env) σ₁ X) (fun σ₁ => XV c d fx (execs orelse fx.env) σ₁ X))) :
    XV c d fx (exec (.If test body orelse pos) fx.env) σ X := XV.ifs (h.mono fun b σ₁ q => by
  obtain ⟨q1, q2⟩ := q
  cases b
  · exact q2 rfl
  · exact q1 rfl)
theorem XV.st2 {t : Sem Flow} {loc loc' : List (Str × V)} {hp hp' : List O} (e : loc = loc') (e' : hp = hp') (h : XV c d fx t ⟨loc', hp'⟩ X) : XV c d fx t ⟨loc, hp⟩ X := by subst e; subst e'; exact h
theorem XV.whileB {test : Expr} {body : List Stmt} {pos : Pos} {σ : St} (I : Nat → St → Prop) (n : Nat) (h0 : I n σ)
    (turn : ∀ n σ, I n σ → TV c d fx test σ (fun b σ₁ => (b = true → XV c d fx (execs body fx.env) σ₁ (turnC I n X)) ∧ (b = false → X .next σ₁))) : XV c d fx (exec (.While test body [] pos) fx.env) σ X :=
  XV.while_ I n h0 fun n σ hI => (turn n σ hI).mono fun b σ₁ q => by
    cases b
    · exact q.2 rfl
    · exact q.1 rfl
end
end Mine
namespace Mine
open PySem PySem.W PyProof.Rows PySem.SeqAt
theorem cnt_count (n : Nat) : ∀ (l : List Nat), PyProof.Rows.cnt n l = (l.count n : Int)
  | [] => rfl
  | a :: l => by
    rw [PyProof.Rows.cnt_cons, cnt_count n l, List.count_cons]
    by_cases h : a = n
    · subst h; simp; omega
    · rw [if_neg h]; simp [h]
section
variable {c : Cx} {d k : Nat} {fx : Fx} {σ : St} {Q : V → St → Prop}
theorem OVs.count_one {l : List Nat} {n : Nat} (q : Q (.int (l.count n)) σ) : OVs c d fx (fun xs => PySem.call (.builtin "str.count") xs) [.str l, .str [n]] σ Q := fun ρ s A xs _ r va => by
  cases va using VRs.consC with
  | cons v1 v2 =>
    cases v2 using VRs.consC with
    | cons v2 v3 =>
      cases v3 using VRs.nilC
      cases v1 using VR.strC with
      | str t e =>
        cases v2 using VR.strC with
        | str u f =>
          rename_i x y
          refine SC.count ?_
          rw [str_eq_of f, count_cnt, e, cnt_count]
          exact Post.same r rfl rfl rfl (.int _ _) q
theorem TV.orB {e : Expr} {rest : List Expr} {pos : Pos} {Q : Bool → St → Prop} (h : TV c d fx e σ (fun b σ₁ => (b = true → Q true σ₁) ∧ (b = false → TV c d fx (.BoolOp .Or rest pos) σ₁ Q))) : TV c d fx (.BoolOp .Or (e :: rest) pos) σ Q :=
  TV.or1 (h.mono fun b σ₁ q => by
    cases b
    · exact q.2 rfl
    · exact q.1 rfl)
theorem EV.ifB {test body orelse : Expr} {pos : Pos} (h : TV c d fx test σ (IfI (fun σ₁ => EV c d fx (eval body fx.env) σ₁ Q) (fun σ₁ => EV c d fx (eval orelse fx.env) σ₁ Q))) : EV c d fx (eval (.IfExp test body orelse pos) fx.env) σ Q :=
  EV.ifexp (h.mono fun b σ₁ q => by
    cases b
    · exact q.2 rfl
    · exact q.1 rfl)
end
end Mine
namespace Mine
open PySem PySem.W PyProof.Rows PySem.SeqAt
section
variable {c : Cx} {d k : Nat} {fx : Fx} {ρ ρ' ρ'' : List Addr} {σ σ' : St} {h h' h'' : Heap} {s s' s₁ : Shared} {A : Around} {Q : V → St → Prop} {X : Fl → St → Prop}
  {loc loc' : List (Str × V)} {hp hp' : List O}

noncomputable def Src (c : Cx) (fx : Fx) (v : V) (σ : St) (n : Nat) (item : Nat → V) (Cn : St → Prop) : Prop :=
  ∀ ρ (s : Shared) A x (R : Value → Shared → Prop) (E : Value → Shared → Prop), A.handled = none → RelS c fx ρ σ s → VR ρ s.heap v x →
    (∀ it J h' tk, (∀ b o, s.heap.get? b = some o → h'.get? b = some o) → s.heap.objs.size ≤ h'.objs.size → s.heap.get? it = none → c.H₀.get? it = none → It c ρ it n item Cn J → J 0 h' → R (.ref it) { s with heap := h', toks := tk }) → wpAny c.M A (pyIter x) R E s
theorem Src.list {l : Nat} {vs : List V} (hl : σ.hp[l]? = some (.list vs)) : Src c fx (.ref l) σ vs.length (fun i => vs.getD i .none) (fun σ => σ.hp[l]? = some (.list vs)) := fun ρ s A x R E hh r vx q => by
  cases vx using VR.refC with
  | ref ha =>
    rename_i a
    obtain ⟨x, h1, xs, n, rfl, h2⟩ := r.1.obj l a _ ha hl
    refine wpAny_pyIter_list ⟨_, h1, rfl, n, rfl⟩ ?_
    exact q _ _ _ s.toks (fun _ _ e => Heap.get?_push_of_some _ e) (by rw [Heap.size_push]; exact Nat.le_succ _) (get_none_of_lt (Nat.le_refl _)) (r.1.size₀ (Nat.le_refl _)) (It.list ha) ⟨_, Heap.get?_push_size _ rfl, rfl, rfl⟩
theorem Src.base {a : Addr} {xs : List Value} {vs : List V} (hl : c.H₀.IsList a xs.toArray) (hv : ∀ ρ h, VRs ρ h vs xs) : Src c fx (.top a) σ vs.length (fun i => vs.getD i .none) (fun _ => True) := fun ρ s A x R E hh r vx q => by
  cases vx using VR.topC with
  | top =>
    have hl' : s.heap.IsList a xs.toArray := let ⟨o, e, y⟩ := hl; ⟨o, r.1.keep _ _ e, y⟩
    refine wpAny_pyIter_list hl' ?_
    exact q _ _ _ s.toks (fun _ _ e => Heap.get?_push_of_some _ e) (by rw [Heap.size_push]; exact Nat.le_succ _) (get_none_of_lt (Nat.le_refl _)) (r.1.size₀ (Nat.le_refl _)) (It.topList hl hv) ⟨_, Heap.get?_push_size _ rfl, rfl, rfl⟩

theorem XV.forS {target iter : Expr} {body : List Stmt} {pos : Pos} (h : EV c d fx (eval iter fx.env) σ (fun v σ₁ => ∃ n item Cn, Src c fx v σ₁ n item Cn ∧ ∃ I : Nat → St → Prop, I 0 σ₁ ∧ (∀ i σ, I i σ → Cn σ) ∧
      (∀ ρ₀, ρ₀.length = σ₁.hp.length → ∀ i σ, i < n → I i σ → OU1 c d { fx with ρ₀ := ρ₀ } (fun y => PySem.assign target fx.env y) (item i) σ (fun _ σ₁ => XV c d { fx with ρ₀ := ρ₀ } (execs body fx.env) σ₁ (forX I i X))) ∧
      (∀ σ, I n σ → X .next σ)))
    (hs : ∀ x, foldedSetIterable iter fx.env x = pure x := by intro _; rfl) (ht : ∀ s : Shared, ∀ it, ∀ v, letOwnedTupleGo target (.ref it) v = pure () := by intros; rfl) : XV c d fx (exec (.For target iter body [] pos) fx.env) σ X := fun ρ s A R r => by
  refine wpAny_For (wpAny_mono (h ρ s A R r) ?_ fun _ _ e => e) hs
  rintro x s₁ ⟨ρ₁, v, σ₁, p₁, e₁, r₁, v₁, n, item, Cn, hsrc, I, i0, iC, turn, fin⟩
  refine hsrc ρ₁ s₁ A x _ _ R.handled r₁ v₁ fun it J h' tk hk hsz hnew h0 T hJ => ?_
  have r₂ : RelS c fx ρ₁ σ₁ { s₁ with heap := h', toks := tk } := ⟨r₁.1.ext hk, r₁.2⟩
  refine codeAny_mono (forIt (E := noE) (s₀ := s₁) R T r₂ (.ext hk) hnew (fun m => ?_) h0 (fun e => ?_) hJ I i0 iC (turn ρ₁ r₁.1.len) fin (ht s _)) ?_
  · obtain ⟨_, _, x, _, _, hx, _⟩ := r₁.1.toHRel.mem m
    rw [hnew] at hx; cases hx
  · obtain ⟨o, ho⟩ := r₁.1.hasL
    rw [← e, hnew] at ho; cases ho
  · rintro (e | f) s' z
    · exact z
    · exact z.trans e₁ r₁
end
end Mine
namespace Mine
open PySem PySem.W PyProof.Rows
theorem runs_toks {M : Model} {Γ : Ctx} {p : Pos} {t : Sem Fin} {fs : List Frame} {s s' : Shared} {e : End} (h : Runs M Γ p t fs s e s') : s.toks ≤ s'.toks := by
  induction h with
  | done => exact Nat.le_refl _
  | raise => exact Nat.le_refl _
  | yield => exact Nat.le_refl _
  | fresh _ ih => exact Nat.le_trans (Nat.le_succ _) ih
  | call _ _ ih1 ih2 => exact Nat.le_trans ih1 ih2
  | resumeFresh _ _ _ _ ih1 ih2 => exact Nat.le_trans ih1 ih2
  | resumeSuspended _ _ _ _ ih1 ih2 => exact Nat.le_trans ih1 ih2
  | segRet _ _ ih1 ih2 => exact Nat.le_trans ih1 ih2
  | segGen _ _ ih1 ih2 => exact Nat.le_trans ih1 ih2
  | segSuspGen _ _ _ _ ih1 ih2 => exact Nat.le_trans ih1 ih2
  | _ => assumption
theorem wakes_toks {M : Model} {Γ : Ctx} {p : Pos} {g : Nat} {r : Resume} {s s' : Shared} {res : GenResult} (h : Wakes M Γ p g r s res s') : s.toks ≤ s'.toks := by
  unfold Wakes at h
  cases hg : s.gens[g]? with
  | none => rw [hg] at h; exact h.elim
  | some gs =>
    rw [hg] at h
    cases gs with
    | fresh c =>
      cases r with
      | send v =>
        cases v with
        | none => obtain ⟨e₁, s₁, h1, _, _, rfl⟩ := h; have := runs_toks h1; exact this
        | _ => obtain ⟨_, rfl⟩ := h; exact Nat.le_refl _
      | throw x => obtain ⟨_, rfl⟩ := h; exact Nat.le_refl _
    | suspended k₀ a c₀ p₀ fs b => obtain ⟨e₁, s₁, h1, _, _, rfl⟩ := h; have := runs_toks h1; exact this
    | running => obtain ⟨_, rfl⟩ := h; exact Nat.le_refl _
    | finished => obtain ⟨_, rfl⟩ := h; exact Nat.le_refl _
theorem wp_toks {α : Type} {M : Model} {Γ : Ctx} (t : Sem α) {Q : α → Pos → Shared → Prop} {E : Value → Pos → Shared → Prop} : ∀ (p : Pos) (s : Shared) (n : Nat), n ≤ s.toks → Sem.wp M Γ t Q E p s →
    Sem.wp M Γ t (fun a p' s' => Q a p' s' ∧ n ≤ s'.toks) (fun e p' s' => E e p' s' ∧ n ≤ s'.toks) p s := by
  induction t with
  | pure x => exact fun p s n hn h => ⟨h, hn⟩
  | raise v => exact fun p s n hn h => ⟨h, hn⟩
  | unsupported | finish | yield | fork | await | register => exact fun p s n hn h => h
  | rule _ k ih | «at» _ k ih | alloc _ k ih | loadIfAlive _ k ih | point _ k ih | ask k ih | os _ _ k ih | handled _ k ih | newGen _ k ih | stack k ih | thread k ih => exact fun p s n hn h => ih _ _ _ n hn h
  | fresh k ih => exact fun p s n hn h => ih _ _ _ n (Nat.le_succ_of_le hn) h
  | load a _ k ih | genState a k ih => exact fun p s n hn ⟨o, ho, h⟩ => ⟨o, ho, ih _ _ _ n hn h⟩
  | update a _ f k ih | choose _ _ k ih => exact fun p s n hn ⟨ha, h⟩ => ⟨ha, ih _ _ _ n hn h⟩
  | call c h g l k ih => exact fun p s n hn ⟨r, s', hr, h⟩ => ⟨r, s', hr, ih _ _ _ n (Nat.le_trans hn (runs_toks hr)) h⟩
  | resume g r l k ih => exact fun p s n hn ⟨res, s', hw, h⟩ => ⟨res, s', hw, ih _ _ _ n (Nat.le_trans hn (wakes_toks hw)) h⟩
theorem wpAny_toks {α : Type} {M : Model} {A : Around} {t : Sem α} {Q : α → Shared → Prop} {E : Value → Shared → Prop} {s : Shared} {n : Nat} (hn : n ≤ s.toks) (h : wpAny M A t Q E s) : wpAny M A t (fun a s' => Q a s' ∧ n ≤ s'.toks) E s :=
  fun Γ p hΓ => Sem.wp_mono M Γ t (fun _ _ _ z => z) (fun _ _ _ z => z.1) p s (wp_toks t p s n hn (h Γ p hΓ))
end Mine
namespace Mine
open PySem PySem.W PyProof.Rows PySem.SeqAt
section
variable {c : Cx} {d k : Nat} {fx : Fx} {ρ ρ' ρ'' : List Addr} {σ σ' : St} {h h' h'' : Heap} {s s' s₁ : Shared} {A : Around} {Q : V → St → Prop} {X : Fl → St → Prop}
  {loc loc' : List (Str × V)} {hp hp' : List O}

theorem Rel.forget (r : Rel c fx ρ ⟨loc, hp⟩ h) : Rel c fx ρ ⟨[], hp⟩ h :=
  { toHRel := r.toHRel, ok := r.ok, loc := let ⟨m, hm, _⟩ := r.loc; ⟨m, hm, fun _ _ e => by cases e⟩, lfresh := r.lfresh, lapart := r.lapart, pre := r.pre, glob := r.glob, bltn := r.bltn, kind := r.kind, cells := r.cells }
noncomputable def EVn (n0 : Nat) (c : Cx) (d : Nat) (fx : Fx) (t : Sem Value) (σ : St) (Q : V → St → Prop) : Prop :=
  ∀ ρ s A, Room d A → RelS c fx ρ σ s → n0 ≤ s.toks → wpAny c.M A t (Post c fx ρ s Q) noE s
noncomputable def EVq (n0 : Nat) (c : Cx) (d : Nat) (fx : Fx) (t : Sem Value) (σ : St) (Q : V → St → Prop) : Prop := match n0 with
  | 0 => EV c d fx t σ Q
  | n + 1 => EVn (n + 1) c d fx t σ Q
theorem EVq.run {n0 : Nat} {t : Sem Value} (h : EVq n0 c d fx t σ Q) (R : Room d A) (r : RelS c fx ρ σ s) (hn : n0 ≤ s.toks) : wpAny c.M A t (Post c fx ρ s Q) noE s := by
  cases n0 with
  | zero => exact h ρ s A R r
  | succ n => exact h ρ s A R r hn
theorem wpT {α : Type} {M : Model} {t : Sem α} {Q : α → Shared → Prop} {E : Value → Shared → Prop} {n : Nat} (hn : n ≤ s.toks) (h : wpAny M A t (fun a s' => n ≤ s'.toks → Q a s') E s) : wpAny M A t Q E s :=
  wpAny_mono (wpAny_toks hn h) (fun _ _ z => z.1 z.2) fun _ _ e => e
noncomputable def CTn (n0 : Nat) (c : Cx) (d : Nat) (fx : Fx) (ifs : List Expr) (elt : Expr) (σ : St) (P : Option V → St → Prop) : Prop := match ifs with
  | [] => EVq n0 c d fx (eval elt fx.env) σ (fun v σ₁ => P (some v) σ₁)
  | [t] => TV c d fx t σ (fun b σ₁ => (b = true → EVq n0 c d fx (eval elt fx.env) σ₁ (fun v σ₂ => P (some v) σ₂)) ∧ (b = false → P none σ₁))
  | _ => False
noncomputable abbrev CT := CTn 0
noncomputable abbrev CTP (I : Nat → List V → List O → Prop) (a i : Nat) (acc : List V) : Option V → St → Prop := fun ov σ₂ => match ov with
  | some v => σ₂.hp[a]? = some (.list acc) ∧ acc.length < 2 ^ 20 ∧ I (i + 1) (acc ++ [v]) (σ₂.hp.set a (.list (acc ++ [v])))
  | none => I (i + 1) acc σ₂.hp
noncomputable def CompOkN (n0 : Nat) (c : Cx) (d : Nat) (fx : Fx) (x : Str) (ifs : List Expr) (elt : Expr) (scope : Scope) (cl' : List (Str × Nat)) (n : Nat) (item : Nat → V) (Cn : St → Prop) (I : Nat → List V → List O → Prop) (a : Nat) : Prop :=
  (∀ i acc hp, I i acc hp → hp[a]? = some (.list acc) ∧ ∀ loc, Cn ⟨loc, hp⟩) ∧
  (∀ C clos ρ₀, ∀ i acc hp, i < n → I i acc hp → CTn n0 c d ⟨compEnvC scope clos C fx.env, cl', ρ₀⟩ ifs elt ⟨[(x, item i)], hp⟩ (CTP I a i acc))

noncomputable abbrev CompOk := CompOkN 0
noncomputable def CompOkT (n0 : Nat) (c : Cx) (d : Nat) (fx : Fx) (tgt : Expr) (ifs : List Expr) (elt : Expr) (scope : Scope) (cl' : List (Str × Nat)) (n : Nat) (item : Nat → V) (Cn : St → Prop) (I : Nat → List V → List O → Prop) (a : Nat) : Prop :=
  (∀ i acc hp, I i acc hp → hp[a]? = some (.list acc) ∧ ∀ loc, Cn ⟨loc, hp⟩) ∧
  (∀ C clos ρ₀, ∀ i acc hp, i < n → I i acc hp → OU1 c d ⟨compEnvC scope clos C fx.env, cl', ρ₀⟩ (fun y => PySem.assign tgt (compEnvC scope clos C fx.env) y) (item i) ⟨[], hp⟩ (fun _ σ => CTn n0 c d ⟨compEnvC scope clos C fx.env, cl', ρ₀⟩ ifs elt σ (CTP I a i acc)))
noncomputable abbrev GoOk (c : Cx) (tgt : Expr) (it : Addr) (J : Nat → Heap → Prop) : Prop := ∀ (A : Around) i (s : Shared) x (R : Unit → Shared → Prop) (E : Value → Shared → Prop), J i s.heap → R () s → wpAny c.M A (letOwnedTupleGo tgt (.ref it) x) R E s
noncomputable def SrcT (c : Cx) (fx : Fx) (tgt : Expr) (v : V) (σ : St) (n : Nat) (item : Nat → V) (Cn : St → Prop) : Prop :=
  ∀ ρ (s : Shared) A x (R : Value → Shared → Prop) (E : Value → Shared → Prop), A.handled = none → RelS c fx ρ σ s → VR ρ s.heap v x →
    (∀ it J h' tk, (∀ b o, s.heap.get? b = some o → h'.get? b = some o) → s.heap.objs.size ≤ h'.objs.size → s.heap.get? it = none → c.H₀.get? it = none → It c ρ it n item Cn J → GoOk c tgt it J → J 0 h' → R (.ref it) { s with heap := h', toks := tk }) → wpAny c.M A (pyIter x) R E s
theorem Src.name {x : Str} {px : Pos} {v : V} {n : Nat} {item : Nat → V} {Cn : St → Prop} (S : Src c fx v σ n item Cn) : SrcT c fx (.Name x px) v σ n item Cn := fun ρ s A y R E hh r hv q =>
  S ρ s A y R E hh r hv fun it J h' tk a1 a2 a3 a4 a5 a6 => q it J h' tk a1 a2 a3 a4 a5 (fun A' i s' z R' E' _ hR => wpAny_pure hR) a6
theorem testsT {elt target iter : Expr} {ifs : List Expr} {scope : Scope} {pos : Pos} {it acc : Value} {env : Env} {prog : Program} {w : World} {RR : Result → Shared → Prop} (I : Nat → Shared → Prop)
    (turn : ∀ n s, I n s → wpAny (model prog w) A (pyNext it) (fun r s₁ => match r with
      | none => RR (.ok .next) s₁
      | some v => wpAny (model prog w) A (letOwnedTupleGo target it v) (fun _ s₁ => wpAny (model prog w) A (PySem.assign target env v) (fun _ s₂ =>
          wpAny (model prog w) A (forIn ifs true fun c r => if r = true then do let ok ← isTrue c env (eval c env); pure (ForInStep.yield ok) else pure (ForInStep.yield r)) (fun ok s₃ =>
            if ok = true then wpAny (model prog w) A (eval elt env) (fun x s₄ =>
              wpAny (model prog w) A (PySem.call (.builtin "list.append") [acc, x]) (fun _ s₅ => ∃ m, m < n ∧ I m s₅) (notedBy (model prog w) A env fun e s' => RR (.error e) s') s₄) (notedBy (model prog w) A env fun e s' => RR (.error e) s') s₃
            else ∃ m, m < n ∧ I m s₃) (notedBy (model prog w) A env fun e s' => RR (.error e) s') s₂) (notedBy (model prog w) A env fun e s' => RR (.error e) s') s₁) (notedBy (model prog w) A env fun e s' => RR (.error e) s') s₁) (notedBy (model prog w) A env fun e s' => RR (.error e) s') s)
    (n : Nat) (h : I n s) :
    codeAny (model prog w) A (.compLoop (.ListComp elt [⟨target, iter, ifs, 0⟩] scope pos) 0 it acc env) RR s := by
  refine codeAny_loop rfl I (fun n s hI => ?_) n h
  show wpAny _ A ((compTurn (.ListComp elt [⟨target, iter, ifs, 0⟩] scope pos) 0 it acc env).onRaise (fun x => do noteFrame x env; theTreesLotGoes x)) _ _ s
  refine wpAny_noted ?_
  rw [compTurn_list]
  refine wpAny_bind (wpAny_standAt (wpAny_bind (wpAny_mono (turn n s hI) (fun r s₁ h₁ => ?_) fun _ _ h' => h')))
  cases r with
  | none => exact wpAny_pure h₁
  | some v =>
    refine wpAny_bind (wpAny_mono h₁ (fun _ s₁ h₁ => ?_) fun _ _ h' => h')
    refine wpAny_bind (wpAny_mono h₁ (fun _ s₂ h₂ => wpAny_bind (wpAny_mono h₂ (fun ok s₃ h₃ => ?_) fun _ _ h' => h')) fun _ _ h' => h')
    cases ok with
    | false => exact wpAny_pure ⟨rfl, h₃⟩
    | true =>
      exact wpAny_bind (wpAny_bind (wpAny_mono h₃ (fun x s₄ h₄ => wpAny_bind (wpAny_mono h₄ (fun _ s₅ h₅ => wpAny_pure (wpAny_pure ⟨rfl, h₅⟩)) fun _ _ h' => h')) fun _ _ h' => h'))
theorem compLoopV {n0 : Nat} {elt iter tgt : Expr} {ifs : List Expr} {scope : Scope} {pos : Pos} {cl' : List (Str × Nat)} {clos : List (Str × Addr)} {C it aa : Addr} {n a : Nat} {item : Nat → V} {Cn : St → Prop} {J : Nat → Heap → Prop} {I : Nat → List V → List O → Prop}
    {RR : Result → Shared → Prop} {s₀ : Shared} (R : Room d A) (T : It c ρ it n item Cn J) (hgo : GoOk c tgt it J)
    (ok : CompOkT n0 c d fx tgt ifs elt scope cl' n item Cn I a) (hpre : ρ <+: ρ') (ha : ρ'[a]? = some aa)
    (r : RelS c ⟨compEnvC scope clos C fx.env, cl', ρ'⟩ ρ' ⟨[], hp⟩ s) (hk₀ : ∀ b o, s₀.heap.get? b = some o → s.heap.get? b = some o)
    (hit : it ∉ ρ') (hit0 : c.H₀.get? it = none) (hitC : it ≠ C) (hJ : J 0 s.heap) (hI : I 0 [] hp) (hn : n0 ≤ s.toks)
    (fin : ∀ ρ₁ s₁ acc hp₁, ρ' <+: ρ₁ → Ext ⟨compEnvC scope clos C fx.env, cl', ρ'⟩ ρ' s₀.heap ρ₁ s₁.heap ∨ True → (∀ b ∈ ρ₁, b ∈ ρ' ∨ s₀.heap.get? b = none) → (∀ b o, b ≠ it → b ≠ C → b ∉ ρ' → s₀.heap.get? b = some o → s₁.heap.get? b = some o) →
      RelS c ⟨compEnvC scope clos C fx.env, cl', ρ'⟩ ρ₁ ⟨[], hp₁⟩ s₁ → I n acc hp₁ → RR (.ok .next) s₁) :
    codeAny c.M A (.compLoop (.ListComp elt [⟨tgt, iter, ifs, 0⟩] scope pos) 0 (.ref it) (.ref aa) (compEnvC scope clos C fx.env)) RR s := by
  refine testsT (fun m s' => ∃ i ρ₁ acc hp₁, n - i = m ∧ i ≤ n ∧ (∀ b ∈ ρ₁, b ∈ ρ' ∨ s₀.heap.get? b = none) ∧ (∀ b o, b ≠ it → b ≠ C → b ∉ ρ' → s₀.heap.get? b = some o → s'.heap.get? b = some o) ∧ it ∉ ρ₁ ∧
    RelS c ⟨compEnvC scope clos C fx.env, cl', ρ'⟩ ρ₁ ⟨[], hp₁⟩ s' ∧ J i s'.heap ∧ I i acc hp₁ ∧ n0 ≤ s'.toks) ?_ n ⟨0, ρ', [], hp, rfl, Nat.zero_le _, fun _ m => .inl m, fun b o _ _ _ e => hk₀ b o e, hit, r, hJ, hI, hn⟩
  rintro m s₁ ⟨i, ρ₁, acc, hp₁, hm, hin, hnw, hkp, hit1, r₁, j₁, hI₁, hn₁⟩
  obtain ⟨oi, hoi, hnf⟩ := T.at_ _ _ j₁
  have side : ∀ h', Keep [it] s₁.heap h' → Rel c ⟨compEnvC scope clos C fx.env, cl', ρ'⟩ ρ₁ ⟨[], hp₁⟩ h' := fun h' k => r₁.1.side k (fun b m => by rw [List.mem_singleton] at m; subst m; exact hit0) (fun b m => by rw [List.mem_singleton] at m; subst m; exact hit1)
    (fun m => by rw [List.mem_singleton] at m; exact hitC m.symm) (fun b m o e => by rw [List.mem_singleton] at m; subst m; rw [hoi] at e; cases e; exact hnf)
  have hp' : ρ' <+: ρ₁ := r₁.1.pre
  rcases Nat.lt_or_eq_of_le hin with hlt | rfl
  · refine wpT hn₁ ?_
    refine T.next ⟨compEnvC scope clos C fx.env, cl', ρ'⟩ i ρ₁ ⟨[], hp₁⟩ s₁ A _ _ hlt R.handled ((ok.1 _ _ _ hI₁).2 _) (hpre.trans hp') r₁ j₁ fun y h' tk hy j' k' htk => ?_
    have r₂ : RelS c ⟨compEnvC scope clos C fx.env, cl', ρ'⟩ ρ₁ ⟨[], hp₁⟩ { s₁ with heap := h', toks := tk } := ⟨side h' k', r₁.2⟩
    have keep2 : ∀ b o, b ≠ it → b ≠ C → b ∉ ρ' → s₀.heap.get? b = some o → h'.get? b = some o := fun b o h1 h2 h3 e => k' b o (fun m => h1 (List.mem_singleton.mp m)) (hkp b o h1 h2 h3 e)
    -- a later step of the turn
    have step : ∀ {ρ₂ : List Addr} {σ₂ : St} {s₂ : Shared}, Ext ⟨compEnvC scope clos C fx.env, cl', ρ'⟩ ρ₁ h' ρ₂ s₂.heap → RelS c ⟨compEnvC scope clos C fx.env, cl', ρ'⟩ ρ₂ σ₂ s₂ → ∀ acc', I (i + 1) acc' σ₂.hp → n0 ≤ s₂.toks →
        ∃ m', m' < m ∧ ∃ i ρ₁ acc hp₁, n - i = m' ∧ i ≤ n ∧ (∀ b ∈ ρ₁, b ∈ ρ' ∨ s₀.heap.get? b = none) ∧ (∀ b o, b ≠ it → b ≠ C → b ∉ ρ' → s₀.heap.get? b = some o → s₂.heap.get? b = some o) ∧ it ∉ ρ₁ ∧
          RelS c ⟨compEnvC scope clos C fx.env, cl', ρ'⟩ ρ₁ ⟨[], hp₁⟩ s₂ ∧ J i s₂.heap ∧ I i acc hp₁ ∧ n0 ≤ s₂.toks := fun {ρ₂ σ₂ s₂} e₂ r₂' acc' hI₂ hn₂ => by
      obtain ⟨loc₂, hp₂⟩ := σ₂
      have hit2 : it ∉ ρ₂ := fun q => by
        rcases e₂.new it q with q | q
        · exact hit1 q
        · obtain ⟨o, ho, _⟩ := T.at_ _ _ j'; rw [show h'.get? it = none from q] at ho; cases ho
      refine ⟨n - (i + 1), by omega, i + 1, ρ₂, acc', hp₂, rfl, hlt, fun b hb => ?_, fun b o h1 h2 h3 e => ?_, hit2, ⟨r₂'.1.forget, r₂'.2⟩, ?_, hI₂, hn₂⟩
      · rcases e₂.new b hb with q | q
        · exact hnw b q
        · by_cases hbρ : b ∈ ρ'
          · exact .inl hbρ
          · right
            cases ho : s₀.heap.get? b with
            | none => rfl
            | some o =>
              have hbi : b ≠ it := fun e => by subst e; exact hit2 hb
              have hbC : b ≠ C := fun e => by subst e; exact r₂'.1.lapart hb
              rw [keep2 b o hbi hbC hbρ ho] at q; cases q
      · refine e₂.keep b o (fun m => ?_) (keep2 b o h1 h2 h3 e)
        rcases List.mem_cons.mp m with m | m
        · exact h2 m
        · rcases hnw b m with q | q
          · exact h3 q
          · rw [q] at e; cases e
      · refine T.keep _ _ _ j' (fun o e => e₂.keep it o (fun m => ?_) e) (r₂.1.immKeep e₂.keep)
        rcases List.mem_cons.mp m with q | q
        · exact hitC q
        · exact hit1 q
    refine hgo A (i + 1) _ y _ _ j' ?_
    refine wpT (s := { s₁ with heap := h', toks := tk }) htk ?_
    refine wpAny_mono (ok.2 C clos ρ' i acc hp₁ hlt hI₁ ρ₁ { s₁ with heap := h', toks := tk } A y R r₂ hy) ?_ fun _ _ z => z.elim
    rintro _ s₂ ⟨ρ₂, σ₂, p₂, e₂, r₂', hturn⟩ hn₂
    have after : ∀ {ρ₃ : List Addr} {σ₃ : St} {s₃ : Shared}, Ext ⟨compEnvC scope clos C fx.env, cl', ρ'⟩ ρ₁ h' ρ₃ s₃.heap → RelS c ⟨compEnvC scope clos C fx.env, cl', ρ'⟩ ρ₃ σ₃ s₃ → n0 ≤ s₃.toks →
        EVq n0 c d ⟨compEnvC scope clos C fx.env, cl', ρ'⟩ (eval elt (compEnvC scope clos C fx.env)) σ₃ (fun v σ₂ => CTP I a i acc (some v) σ₂) →
        wpAny c.M A (eval elt (compEnvC scope clos C fx.env)) (fun x s₄ => wpAny c.M A (PySem.call (.builtin "list.append") [.ref aa, x]) (fun _ s₅ => ∃ m', m' < m ∧ ∃ i ρ₁ acc hp₁, n - i = m' ∧ i ≤ n ∧ (∀ b ∈ ρ₁, b ∈ ρ' ∨ s₀.heap.get? b = none) ∧ (∀ b o, b ≠ it → b ≠ C → b ∉ ρ' → s₀.heap.get? b = some o → s₅.heap.get? b = some o) ∧ it ∉ ρ₁ ∧
          RelS c ⟨compEnvC scope clos C fx.env, cl', ρ'⟩ ρ₁ ⟨[], hp₁⟩ s₅ ∧ J i s₅.heap ∧ I i acc hp₁ ∧ n0 ≤ s₅.toks) noE s₄) noE s₃ := fun {ρ₃ σ₃ s₃} e₃ r₃ hn₃ h₃ => by
      refine wpT hn₃ ?_
      refine wpAny_mono (h₃.run R r₃ hn₃) ?_ fun _ _ z => z
      rintro z s₄ ⟨ρ₄, v, σ₄, p₄, e₄, r₄, v₄, g1, g2, g3⟩ hn₄
      refine wpT hn₄ ?_
      have haa : ρ₄[a]? = some aa := pre_get r₄.1.pre ha
      refine wpAny_mono (OVs.append (c := c) (d := d) (Q := fun _ σ => σ = ⟨σ₄.loc, σ₄.hp.set a (.list (acc ++ [v]))⟩) g1 g2 rfl ρ₄ s₄ A [.ref aa, z] R r₄ (.cons (.ref haa) (.cons v₄ .nil))) ?_ fun _ _ z => z
      rintro _ s₅ ⟨ρ₅, _, _, p₅, e₅, r₅, _, rfl⟩ hn₅
      exact step ((e₃.trans e₄ r₃.1.hasL).trans e₅ r₄.1.hasL) r₅ _ g3 hn₅
    match ifs, hturn with
    | [], hturn => exact wpAny_tests_nil (by rw [if_pos rfl]; exact wpAny_mono (after e₂ r₂' hn₂ hturn) (fun _ _ q => wpAny_mono q (fun _ _ q => q) fun _ _ z => z.elim) fun _ _ z => z.elim)
    | [t], hturn =>
      refine wpAny_tests_one (wpT hn₂ (wpAny_mono (hturn ρ₂ s₂ A R r₂') ?_ fun _ _ z => z.elim))
      rintro b s₃ ⟨ρ₃, σ₃, p₃, e₃, r₃, h₃⟩ hn₃
      cases b with
      | true => rw [if_pos rfl]; exact wpAny_mono (after (e₂.trans e₃ r₂'.1.hasL) r₃ hn₃ (h₃.1 rfl)) (fun _ _ q => wpAny_mono q (fun _ _ q => q) fun _ _ z => z.elim) fun _ _ z => z.elim
      | false => rw [if_neg (by decide)]; exact step (e₂.trans e₃ r₂'.1.hasL) r₃ acc (h₃.2 rfl) hn₃
    | _ :: _ :: _, hturn => exact hturn.elim
  · refine T.done ⟨compEnvC scope clos C fx.env, cl', ρ'⟩ ρ₁ ⟨[], hp₁⟩ s₁ A _ _ R.handled ((ok.1 _ _ _ hI₁).2 _) (hpre.trans hp') r₁ j₁ fun h' tk k' => ?_
    exact fin ρ₁ _ acc hp₁ hp' (.inr trivial) hnw (fun b o h1 h2 h3 e => k' b o (fun m => h1 (List.mem_singleton.mp m)) (hkp b o h1 h2 h3 e)) ⟨side h' k', r₁.2⟩ hI₁

theorem compV {n0 : Nat} {elt iter tgt : Expr} {ifs : List Expr} {scope : Scope} {pos p0 : Pos} {cl' : List (Str × Nat)} {use : Option (Value → Sem Unit)} {RQ : Value → Shared → Prop} {F : V → St → Prop} (R : Room d A) (r : RelS c fx ρ σ s) (hn : n0 ≤ s.toks)
    (hcl : cloV fx.cl scope.names [] = some cl') (hkind : scope.kind = .function) (hnames : scope.names.all (fun y => y.2 != .local || scope.names.lookup y.1 == some .local) = true) (hcell : scope.names.any (fun y => y.2 == .cell) = false)
    (h : EV c d fx (eval iter fx.env) σ (fun v σ₁ => ∃ n item Cn I, SrcT c fx tgt v σ₁ n item Cn ∧ I 0 [] (σ₁.hp ++ [.list []]) ∧ CompOkT n0 c d fx tgt ifs elt scope cl' n item Cn I σ₁.hp.length ∧ (∀ acc hp', I n acc hp' → F (.ref σ₁.hp.length) ⟨σ₁.loc, hp'⟩)))
    (hs : ∀ x, foldedSetIterable iter fx.env x = pure x)
    (fin : ∀ ρ' s' σ' v y C, ρ <+: ρ' → Ext fx ρ s.heap ρ' s'.heap → RelS c fx ρ' σ' s' → VR ρ' s'.heap v y → F v σ' → (∃ m, s'.heap.Ns C m) → C ∉ ρ' → C ≠ fx.env.locals → c.H₀.get? C = none → s.heap.get? C = none → compPost c.M A noE use RQ y C (.ok .next) s') :
    wpAny c.M A (comprehension (.ListComp elt [⟨tgt, iter, ifs, 0⟩] scope pos) scope fx.env p0 (newList []) false (eval iter fx.env) use) RQ noE s := by
  obtain ⟨clos, hc1, hc2⟩ := closure_V (r.1.cells.mono r.1.pre) hcl
  refine wpAny_comprehension_free rfl hs hc1 hkind (fun y hy hl => ?_) (wpT hn (wpAny_mono (h ρ s A R r) ?_ fun _ _ e => e))
  · have := List.all_eq_true.mp hnames y hy
    rw [hl] at this; simpa using this
  rintro xv s₁ ⟨ρ₁, v, ⟨loc₁, hp₁⟩, p₁, e₁, r₁, v₁, n, item, Cn, I, hsrc, hI0, hok, hF⟩ hn₁
  refine wpT hn₁ ?_
  refine hsrc ρ₁ s₁ A xv _ _ R.handled r₁ v₁ fun it J h₂ tk hk₂ hsz1 hnew h0 T hgo hJ htk => ?_
  have r₂ : RelS c fx ρ₁ ⟨loc₁, hp₁⟩ { s₁ with heap := h₂, toks := tk } := ⟨r₁.1.ext hk₂, r₁.2⟩
  have hit1 : it ∉ ρ₁ := fun m => by
    obtain ⟨_, _, x, _, _, hx, _⟩ := r₁.1.toHRel.mem m
    rw [hnew] at hx; cases hx
  have hitS : it < h₂.objs.size := by obtain ⟨o, ho, _⟩ := T.at_ _ _ hJ; exact Heap.lt_size ho
  refine wpAny_newObj_type (wpAny_newFunctionEnv (fun y hy e => ?_) (by intro y hy; simp at hy) (fun h₃ hns hsb => ?_) hkind)
  · have := List.any_eq_false.mp hcell y hy
    rw [e] at this; exact this rfl
  dsimp only at hns hsb ⊢
  generalize hH : h₂.push { cls := .type "list", dict := none, data := .seq ([] : List Value).toArray } = H at hns hsb ⊢
  have hr3 : Rel c fx (ρ₁ ++ [h₂.objs.size]) ⟨loc₁, hp₁ ++ [.list []]⟩ H := by
    rw [← hH]; exact r₂.1.alloc (o := .list []) rfl ⟨[], _, rfl, .nil⟩
  have hHs : H.objs.size = h₂.objs.size + 1 := by rw [← hH, Heap.size_push]
  have oldH : ∀ b o, H.get? b = some o → h₃.get? b = some o := fun b o e => hsb.extBut b o (Nat.ne_of_lt (Heap.lt_size e)) (Heap.get?_push_of_some _ e)
  have old2 : ∀ b o, h₂.get? b = some o → H.get? b = some o := fun b o e => by rw [← hH]; exact Heap.get?_push_of_some _ e
  have old : ∀ b o, s₁.heap.get? b = some o → h₃.get? b = some o := fun b o e => oldH b o (old2 b o (hk₂ b o e))
  have rC : Rel c ⟨compEnvC scope clos H.objs.size fx.env, cl', ρ₁ ++ [h₂.objs.size]⟩ (ρ₁ ++ [h₂.objs.size]) ⟨[], hp₁ ++ [.list []]⟩ h₃ :=
    Rel.enter (env := compEnvC scope clos H.objs.size fx.env) (ns := []) (vs := []) (xs := []) r₁.1.ok hr3.toHRel rfl r₁.1.glob r₁.1.bltn hkind ((hc2.mono p₁).mono (pre_snoc _ _)) .nil rfl .nil hns oldH
  have haa : (ρ₁ ++ [h₂.objs.size])[hp₁.length]? = some h₂.objs.size := by rw [← r₁.1.len]; simp
  have loop : ∀ s₃ : Shared, s₃ = ⟨h₃, s₁.gens, s₁.drawn, tk, s₁.os⟩ → codeAny c.M A (.compLoop (.ListComp elt [⟨tgt, iter, ifs, 0⟩] scope pos) 0 (.ref it) (.ref h₂.objs.size) (compEnvC scope clos H.objs.size fx.env)) (compPost c.M A noE use RQ (.ref h₂.objs.size) H.objs.size) s₃ := by
    rintro s₃ rfl
    refine compLoopV (s₀ := s₁) (ρ := ρ₁) (ρ' := ρ₁ ++ [h₂.objs.size]) (a := hp₁.length) R T hgo hok (pre_snoc _ _) haa ⟨rC, r₁.2⟩ old (fun m => ?_) h0 (fun e => ?_) (T.keep _ _ _ hJ (fun o e => oldH _ o (old2 _ o e)) fun b o _ e => oldH b o (old2 b o e)) hI0 htk fun ρ₄ s₄ acc hp₄ p₄ _ hnw hkp r₄ hIn => ?_
    · rcases List.mem_append.mp m with m | m
      · exact hit1 m
      · rw [List.mem_singleton.mp m] at hitS; exact Nat.lt_irrefl _ hitS
    · have q : it < H.objs.size := by rw [hHs]; exact Nat.lt_succ_of_lt hitS
      rw [e] at q; exact Nat.lt_irrefl _ q
    · have hD1 : s₁.heap.get? h₂.objs.size = none := get_none_of_lt hsz1
      have hC1 : s₁.heap.get? H.objs.size = none := get_none_of_lt (by rw [hHs]; exact Nat.le_succ_of_le hsz1)
      have fe : FExt ρ₁ s₁.heap ρ₄ s₄.heap := by
        refine ⟨(pre_snoc _ _).trans p₄, fun b hb => ?_, fun b o nb e => hkp b o (fun q => ?_) (fun q => ?_) (fun m => ?_) e⟩
        · rcases hnw b hb with q | q
          · rcases List.mem_append.mp q with q | q
            · exact .inl q
            · rw [List.mem_singleton] at q; subst q; exact .inr hD1
          · exact .inr q
        · subst q; rw [hnew] at e; cases e
        · subst q; rw [hC1] at e; cases e
        · rcases List.mem_append.mp m with q | q
          · exact nb q
          · rw [List.mem_singleton] at q; subst q; rw [hD1] at e; cases e
      have ro : RelS c fx ρ₄ ⟨loc₁, hp₄⟩ s₄ := ⟨r₁.1.after fe r₄.1.toHRel, r₄.2⟩
      obtain ⟨mC, hmC, _⟩ := r₄.1.loc
      have hCs : s.heap.get? H.objs.size = none := by
        cases q : s.heap.get? H.objs.size with
        | none => rfl
        | some o =>
          exfalso
          by_cases hm : H.objs.size ∈ fx.env.locals :: ρ
          · rcases List.mem_cons.mp hm with hm | hm
            · obtain ⟨o', ho'⟩ := r₁.1.hasL
              rw [← hm, hC1] at ho'; cases ho'
            · obtain ⟨i, hi, hi2⟩ := List.getElem_of_mem hm
              have := pre_get p₁ (List.getElem?_eq_some_iff.mpr ⟨hi, hi2⟩)
              obtain ⟨_, _, z, _, _, hz, _⟩ := r₁.1.toHRel.mem (mem_of_get? this)
              rw [hC1] at hz; cases hz
          · have := e₁.keep _ _ hm q
            rw [hC1] at this; cases this
      refine fin ρ₄ s₄ ⟨loc₁, hp₄⟩ (.ref hp₁.length) (.ref h₂.objs.size) H.objs.size (p₁.trans fe.pre) (e₁.trans fe.ext r₁.1.hasL) ro (.ref (pre_get p₄ haa)) (hF acc hp₄ hIn) ⟨mC, hmC⟩ r₄.1.lapart (fun e => ?_) r₄.1.lfresh hCs
      obtain ⟨o, ho⟩ := r₁.1.hasL
      rw [← e, hC1] at ho; cases ho
  exact codeAny_compStart_list (loop _ rfl) (T.self 0 _ _ _ _ (T.keep _ _ _ hJ (fun o e => oldH _ o (old2 _ o e)) fun b o _ e => oldH b o (old2 b o e)) (loop _ rfl))
end
end Mine
namespace Mine
open PySem PySem.W PyProof.Rows PySem.SeqAt
section
variable {c : Cx} {d k : Nat} {fx : Fx} {ρ ρ' ρ'' : List Addr} {σ σ' : St} {h h' h'' : Heap} {s s' s₁ : Shared} {A : Around} {Q : V → St → Prop} {X : Fl → St → Prop}
  {loc loc' : List (Str × V)} {hp hp' : List O}
theorem Ns.notFix {a : Addr} {m : Str → Option Value} (hn : h.Ns a m) {o : Obj} (e : h.get? a = some o) : ¬ Fix o := fun f => by
  obtain ⟨o', es, ep, e', hd, _⟩ := hn
  rw [e] at e'; cases e'
  exact f.notDict hd
theorem RelS.sideNs {C : Addr} {m : Str → Option Value} (r : RelS c fx ρ σ s) (hn : s.heap.Ns C m) (h1 : C ∉ ρ) (h2 : C ≠ fx.env.locals) (h3 : c.H₀.get? C = none) (hs : Heap.SameBut C s.heap h') : RelS c fx ρ σ { s with heap := h' } :=
  ⟨r.1.side (.of_sameBut hs) (fun b m => by rw [List.mem_singleton] at m; subst m; exact h3) (fun b m => by rw [List.mem_singleton] at m; subst m; exact h1) (fun m => by rw [List.mem_singleton] at m; exact h2 m.symm)
    (fun b m o e => by rw [List.mem_singleton] at m; subst m; exact Ns.notFix hn e), r.2⟩
theorem Ext.sideNs {C : Addr} {s₀ : Heap} (e : Ext fx ρ s₀ ρ' h) (h0 : s₀.get? C = none) (hs : Heap.SameBut C h h') : Ext fx ρ s₀ ρ' h' :=
  ⟨e.new, fun b o nb z => (hs.2 b (fun q => by subst q; rw [h0] at z; cases z)).trans (e.keep b o nb z)⟩

theorem compEVT {n0 : Nat} {elt iter tgt : Expr} {ifs : List Expr} {scope : Scope} {pos : Pos} {cl' : List (Str × Nat)}
    (hcl : cloV fx.cl scope.names [] = some cl')
    (h : EV c d fx (eval iter fx.env) σ (fun v σ₁ => ∃ n item Cn I, SrcT c fx tgt v σ₁ n item Cn ∧ I 0 [] (σ₁.hp ++ [.list []]) ∧ CompOkT n0 c d fx tgt ifs elt scope cl' n item Cn I σ₁.hp.length ∧ (∀ acc hp', I n acc hp' → Q (.ref σ₁.hp.length) ⟨σ₁.loc, hp'⟩)))
    (hkind : scope.kind = .function := by rfl) (hnames : scope.names.all (fun y => y.2 != .local || scope.names.lookup y.1 == some .local) = true := by decide +kernel) (hcell : scope.names.any (fun y => y.2 == .cell) = false := by decide +kernel)
    (hs : ∀ x, foldedSetIterable iter fx.env x = pure x := by intro _; rfl) :
    EVn n0 c d fx (eval (.ListComp elt [⟨tgt, iter, ifs, 0⟩] scope pos) fx.env) σ Q := fun ρ s A R r hn => by
  rw [eval_ListComp]
  refine compV (F := Q) R r hn hcl hkind hnames hcell h hs fun ρ' s' σ' v y C p e r' hv hF hN h1 h2 h3 h4 => ?_
  obtain ⟨m, hm⟩ := hN
  refine ⟨m, hm, fun h' hs' => ⟨ρ', v, σ', p, e.sideNs h4 hs', r'.sideNs hm h1 h2 h3 hs', ?_, hF⟩⟩
  refine hv.mono (List.prefix_refl _) fun b o f e' => (hs'.2 b (fun q => ?_)).trans e'
  subst q; exact Ns.notFix hm e' f
theorem EV.compT {elt iter tgt : Expr} {ifs : List Expr} {scope : Scope} {pos : Pos} {cl' : List (Str × Nat)}
    (hcl : cloV fx.cl scope.names [] = some cl')
    (h : EV c d fx (eval iter fx.env) σ (fun v σ₁ => ∃ n item Cn I, SrcT c fx tgt v σ₁ n item Cn ∧ I 0 [] (σ₁.hp ++ [.list []]) ∧ CompOkT 0 c d fx tgt ifs elt scope cl' n item Cn I σ₁.hp.length ∧ (∀ acc hp', I n acc hp' → Q (.ref σ₁.hp.length) ⟨σ₁.loc, hp'⟩)))
    (hkind : scope.kind = .function := by rfl) (hnames : scope.names.all (fun y => y.2 != .local || scope.names.lookup y.1 == some .local) = true := by decide +kernel) (hcell : scope.names.any (fun y => y.2 == .cell) = false := by decide +kernel)
    (hs : ∀ x, foldedSetIterable iter fx.env x = pure x := by intro _; rfl) :
    EV c d fx (eval (.ListComp elt [⟨tgt, iter, ifs, 0⟩] scope pos) fx.env) σ Q := fun ρ s A R r => compEVT (n0 := 0) hcl h hkind hnames hcell hs ρ s A R r (Nat.zero_le _)
theorem CompOkN.toT {n0 : Nat} {x : Str} {px : Pos} {ifs : List Expr} {elt : Expr} {scope : Scope} {cl' : List (Str × Nat)} {n : Nat} {item : Nat → V} {Cn : St → Prop} {I : Nat → List V → List O → Prop} {a : Nat} (hx : scope.names.lookup x = some .local)
    (ok : CompOkN n0 c d fx x ifs elt scope cl' n item Cn I a) : CompOkT n0 c d fx (.Name x px) ifs elt scope cl' n item Cn I a :=
  ⟨ok.1, fun C clos ρ₀ i acc hp hi hI => OU1.name (ok.2 C clos ρ₀ i acc hp hi hI) (lookup_relabel_local hx)⟩
theorem compEV {n0 : Nat} {elt iter : Expr} {x : Str} {px : Pos} {ifs : List Expr} {scope : Scope} {pos : Pos} {cl' : List (Str × Nat)}
    (hcl : cloV fx.cl scope.names [] = some cl')
    (h : EV c d fx (eval iter fx.env) σ (fun v σ₁ => ∃ n item Cn I, Src c fx v σ₁ n item Cn ∧ I 0 [] (σ₁.hp ++ [.list []]) ∧ CompOkN n0 c d fx x ifs elt scope cl' n item Cn I σ₁.hp.length ∧ (∀ acc hp', I n acc hp' → Q (.ref σ₁.hp.length) ⟨σ₁.loc, hp'⟩)))
    (hkind : scope.kind = .function := by rfl) (hnames : scope.names.all (fun y => y.2 != .local || scope.names.lookup y.1 == some .local) = true := by decide +kernel) (hcell : scope.names.any (fun y => y.2 == .cell) = false := by decide +kernel)
    (hx : scope.names.lookup x = some .local := by rfl) (hs : ∀ x, foldedSetIterable iter fx.env x = pure x := by intro _; rfl) :
    EVn n0 c d fx (eval (.ListComp elt [⟨.Name x px, iter, ifs, 0⟩] scope pos) fx.env) σ Q :=
  compEVT hcl (h.mono fun v σ₁ ⟨n, item, Cn, I, a1, a2, a3, a4⟩ => ⟨n, item, Cn, I, a1.name, a2, a3.toT hx, a4⟩) hkind hnames hcell hs

theorem EV.comp {elt iter : Expr} {x : Str} {px : Pos} {ifs : List Expr} {scope : Scope} {pos : Pos} {cl' : List (Str × Nat)}
    (hcl : cloV fx.cl scope.names [] = some cl')
    (h : EV c d fx (eval iter fx.env) σ (fun v σ₁ => ∃ n item Cn I, Src c fx v σ₁ n item Cn ∧ I 0 [] (σ₁.hp ++ [.list []]) ∧ CompOk c d fx x ifs elt scope cl' n item Cn I σ₁.hp.length ∧ (∀ acc hp', I n acc hp' → Q (.ref σ₁.hp.length) ⟨σ₁.loc, hp'⟩)))
    (hkind : scope.kind = .function := by rfl) (hnames : scope.names.all (fun y => y.2 != .local || scope.names.lookup y.1 == some .local) = true := by decide +kernel) (hcell : scope.names.any (fun y => y.2 == .cell) = false := by decide +kernel)
    (hx : scope.names.lookup x = some .local := by rfl) (hs : ∀ x, foldedSetIterable iter fx.env x = pure x := by intro _; rfl) :
    EV c d fx (eval (.ListComp elt [⟨.Name x px, iter, ifs, 0⟩] scope pos) fx.env) σ Q := fun ρ s A R r => compEV (n0 := 0) hcl h hkind hnames hcell hx hs ρ s A R r (Nat.zero_le _)
theorem XV.assignComp {elt iter : Expr} {x y : Str} {px py : Pos} {ifs : List Expr} {scope : Scope} {pos spos : Pos} {cl' : List (Str × Nat)}
    (hcl : cloV fx.cl scope.names [] = some cl')
    (h : EV c d fx (eval iter fx.env) σ (fun v σ₁ => ∃ n item Cn I, Src c fx v σ₁ n item Cn ∧ I 0 [] (σ₁.hp ++ [.list []]) ∧ CompOk c d fx x ifs elt scope cl' n item Cn I σ₁.hp.length ∧ (∀ acc hp', I n acc hp' →
      OU1 c d fx (fun u => PySem.assign (.Name y py) fx.env u) (.ref σ₁.hp.length) ⟨σ₁.loc, hp'⟩ (fun _ σ₂ => X .next σ₂))))
    (hsw : swapsWith (.ListComp elt [⟨.Name x px, iter, ifs, 0⟩] scope pos) (some (.Name y py)) spos.line fx.env = pure true := by rfl)
    (hkind : scope.kind = .function := by rfl) (hnames : scope.names.all (fun y => y.2 != .local || scope.names.lookup y.1 == some .local) = true := by decide +kernel) (hcell : scope.names.any (fun y => y.2 == .cell) = false := by decide +kernel)
    (hx : scope.names.lookup x = some .local := by rfl) (hs : ∀ x, foldedSetIterable iter fx.env x = pure x := by intro _; rfl) :
    XV c d fx (exec (.Assign [.Name y py] (.ListComp elt [⟨.Name x px, iter, ifs, 0⟩] scope pos) spos) fx.env) σ X := fun ρ s A R r => by
  rw [exec_Assign_Name_used _ _ _ _ hsw]
  refine wpAny_bind (wpAny_standAt (wpAny_bind ?_))
  show wpAny _ A (do let _ ← comprehension (.ListComp elt [⟨.Name x px, iter, ifs, 0⟩] scope pos) scope fx.env _ (newList []) false (eval iter fx.env) (some (PySem.assign (.Name y py) fx.env))) _ _ s
  refine wpAny_bind ?_
  refine compV (F := fun v σ' => OU1 c d fx (fun u => PySem.assign (.Name y py) fx.env u) v σ' (fun _ σ₂ => X .next σ₂)) R r (Nat.zero_le _) hcl hkind hnames hcell (h.mono fun v σ₁ ⟨n, item, Cn, I, a1, a2, a3, a4⟩ => ⟨n, item, Cn, I, a1.name, a2, a3.toT hx, a4⟩) hs fun ρ' s' σ' v z C p e r' hv hF hN h1 h2 h3 h4 => ?_
  obtain ⟨m, hm⟩ := hN
  refine wpAny_mono (hF ρ' s' A z R r' hv) ?_ fun _ _ q => q
  rintro _ s₂ ⟨ρ₂, σ₂, p₂, e₂, r₂, q⟩
  have hC2 : C ∉ ρ₂ := fun m' => by
    rcases e₂.new C m' with q | q
    · exact h1 q
    · obtain ⟨o, _, _, e', _⟩ := hm; rw [e'] at q; cases q
  have hm₂ : s₂.heap.Ns C m := by
    obtain ⟨o, es, ep, e', hd⟩ := hm
    exact ⟨o, es, ep, e₂.keep C o (fun q => by rcases List.mem_cons.mp q with q | q; exact h2 q; exact h1 q) e', hd⟩
  refine ⟨m, hm₂, fun h' hs' => wpAny_pure (wpAny_pure ?_)⟩
  exact ⟨ρ₂, .next, σ₂, (e.trans e₂ r'.1.hasL).sideNs h4 hs', r₂.sideNs hm₂ hC2 h2 h3 hs', .next, q⟩
end
end Mine
namespace Mine
open PySem PySem.W PyProof.Rows PySem.SeqAt
section
variable {c : Cx} {d k : Nat} {fx : Fx} {ρ ρ' ρ'' : List Addr} {σ σ' : St} {h h' h'' : Heap} {s s' s₁ : Shared} {A : Around} {Q : V → St → Prop} {X : Fl → St → Prop}
  {loc loc' : List (Str × V)} {hp hp' : List O}
theorem rng_post {a b st : Int} {t u v : Tok} {tk : Tok} (r : RelS c fx ρ σ s) (q : Q (.ref σ.hp.length) ⟨σ.loc, σ.hp ++ [.rng a b st]⟩) : Post c fx ρ s Q (.ref s.heap.objs.size) { s with heap := s.heap.push (rngObj a b st t u v), toks := tk } := by
  obtain ⟨loc, hp⟩ := σ
  exact ⟨ρ ++ [s.heap.objs.size], _, _, pre_snoc _ _, .alloc _, ⟨r.1.alloc (o := .rng a b st) rfl ⟨_, _, _, rfl⟩, r.2⟩, .ref (by rw [← r.1.len]; simp), q⟩
theorem OVs.range1 {b : Int} (q : Q (.ref σ.hp.length) ⟨σ.loc, σ.hp ++ [.rng 0 b 1]⟩) : OVs c d fx (fun xs => PySem.call (.type "range") xs) [.int b] σ Q := fun ρ s A xs _ r va => by
  cases va using VRs.consC with
  | cons v1 v2 => cases v2 using VRs.nilC; cases v1 using VR.intC; exact call_range_1 (rng_post r q)
theorem It.range {it : Addr} {a st : Int} {n : Nat} : It c ρ it n (fun i => .int (a + i * st)) (fun _ => True) (fun i h => IsRangeIter h it (a + i * st) ((n : Int) - i) st) where
  next := fun fx i ρ' σ s A R E hi hh hC hp r hJ q => by
    refine wpAny_pyNext_range_item hJ (by omega) fun h' hit hs => ?_
    refine q _ h' _ (.int _ _) ?_ (.of_sameBut hs)
    have e1 : a + (i : Int) * st + st = a + ((i + 1 : Nat) : Int) * st := by rw [Int.natCast_succ, Int.add_mul]; omega
    have e2 : (n : Int) - i - 1 = (n : Int) - ((i + 1 : Nat) : Int) := by omega
    rw [e1, e2] at hit; exact hit
  done := fun fx ρ' σ s A R E hh hC hp r hJ q => wpAny_pyNext_range_end hh hJ (by omega) fun h' hx => q h' s.toks (.of_extBut hx)
  self := fun i s A R E hJ h => by
    refine wpAny_pyIter_slot ⟨_, hJ, rfl⟩ F.slot_range_iterator_iter (wpAny_call_entry F.slot_range_iterator_iter ⟨_, hJ, rfl⟩ F.entry_range_iterator_iter ?_ (F.args_range_iterator_iter_1 _))
    show wpAny _ _ (ret (.ref it)) _ _ s
    exact wpAny_pure ⟨_, rfl, "range_iterator", _, ⟨_, hJ, rfl⟩, F.slot_range_iterator_next.lookup, h⟩
  keep := fun i h h' hJ k _ => k _ hJ
  at_ := fun i h e => ⟨_, e, notFix_of rfl (by decide)⟩
theorem Src.range {i : Nat} {a b st : Int} {n : Nat} (ho : σ.hp[i]? = some (.rng a b st)) (hn : Builtin.Range.rangeSize a b st = n) (hs : Builtin.Range.small a b st = true) : Src c fx (.ref i) σ n (fun i => .int (a + i * st)) (fun _ => True) := fun ρ s A x R E hh r vx q => by
  cases vx using VR.refC with
  | ref ha =>
    rename_i ad
    obtain ⟨x, h1, t, u, v, rfl⟩ := r.1.obj i ad _ ha ho
    refine wpAny_pyIter_range h1 hs ?_
    refine q _ _ _ s.toks (fun _ _ e => Heap.get?_push_of_some _ e) (by rw [Heap.size_push]; exact Nat.le_succ _) (get_none_of_lt (Nat.le_refl _)) (r.1.size₀ (Nat.le_refl _)) (It.range (n := n) (a := a) (st := st)) ?_
    show IsRangeIter _ _ (a + (0 : Nat) * st) ((n : Int) - (0 : Nat)) st
    rw [hn]
    have e1 : a + ((0 : Nat) : Int) * st = a := by simp
    have e2 : (n : Int) - ((0 : Nat) : Int) = n := by simp
    rw [e1, e2]
    exact Heap.get?_push_size _ rfl
theorem small_of {a b : Int} (ha : -1000000 ≤ a ∧ a ≤ 1000000) (hb : -1000000 ≤ b ∧ b ≤ 1000000) : Builtin.Range.small a b 1 = true := by
  unfold Builtin.Range.small
  rw [rangeSize_one]
  simp only [Builtin.Range.rangeFitsLong, show (1 : Int) > 0 by decide, if_true]
  split <;> simp <;> omega
theorem Src.upto {i n : Nat} (ho : σ.hp[i]? = some (.rng 0 n 1)) (hn : n ≤ 1000000) : Src c fx (.ref i) σ n (fun i => .int i) (fun _ => True) := by
  have := Src.range (c := c) (fx := fx) ho (n := n) (by rw [rangeSize_one]; split <;> omega) (small_of (by omega) (by omega))
  simpa using this
end
end Mine
namespace Mine
open PySem PySem.W PyProof.Rows PySem.SeqAt
section
variable {c : Cx} {d k : Nat} {fx : Fx} {ρ ρ' ρ'' : List Addr} {σ σ' : St} {h h' h'' : Heap} {s s' s₁ : Shared} {A : Around} {Q : V → St → Prop} {X : Fl → St → Prop}
  {loc loc' : List (Str × V)} {hp hp' : List O}
theorem OV2.ne_nil {i j : Nat} {vs : List V} (h1 : σ.hp[i]? = some (.list vs)) (h2 : σ.hp[j]? = some (.list [])) (q : Q (.bool (!vs.isEmpty)) σ) : OV2 c d fx (compareOp .NotEq) (.ref i) (.ref j) σ Q := fun ρ s A x y R r vx vy => by
  cases vx using VR.refC with
  | ref ha => cases vy using VR.refC with
    | ref hb =>
      rename_i a b
      obtain ⟨x, g1, xs, n, rfl, g2⟩ := r.1.obj i a _ ha h1
      obtain ⟨y, g3, ys, m, rfl, g4⟩ := r.1.obj j b _ hb h2
      cases g4
      cases vs with
      | nil =>
        cases g2
        have := RcNeAt.lists (A := A) (s := s) (items := #[]) (items2 := #[]) (e := fun _ => true) ⟨_, g1, rfl, n, rfl⟩ ⟨_, g3, rfl, m, rfl⟩ rfl R.c (fun j h1 _ => by simp at h1)
        exact this _ _ _ _ (Post.same r rfl rfl rfl (.bool _) q)
      | cons v vs =>
        cases g2
        have := RcNeAt.lists_lengths (A := A) (s := s) ⟨_, g1, rfl, n, rfl⟩ ⟨_, g3, rfl, m, rfl⟩ (by simp) R.c
        exact this _ _ _ _ (Post.same r rfl rfl rfl (.bool _) q)
noncomputable def cutL {α : Type} (l : List α) (i j : Option Nat) : List α := (l.drop (clipLo l.length i)).take (clipHi l.length j - clipLo l.length i)
theorem pick_cut (xs : List Value) (i j : Option Nat) : slicePick xs.toArray (i.map Int.ofNat) (j.map Int.ofNat) none = (cutL xs i j).toArray := by
  rw [slicePick_plain]
  cases i <;> cases j <;> simp [cutL, clipLo, clipHi, clipAt_nat]
theorem VRs.cutL {vs : List V} {xs : List Value} {i j : Option Nat} (r : VRs ρ h vs xs) : VRs ρ h (cutL vs i j) (cutL xs i j) := by
  unfold Mine.cutL
  rw [r.length]
  exact r.drop.take
theorem EV.sliceL {value : Expr} {lo hi : Option Expr} {sp pos : Pos}
    (h : EV c d fx (eval value fx.env) σ (fun v σ₁ => ∃ l, v = .ref l ∧
      (match lo with | none => fun K => K none σ₁ | some e => fun K => EV c d fx (eval e fx.env) σ₁ (fun u σ₂ => ∃ n : Nat, u = .int n ∧ K (some n) σ₂) : (Option Nat → St → Prop) → Prop) (fun i σ₂ =>
      (match hi with | none => fun K => K none σ₂ | some e => fun K => EV c d fx (eval e fx.env) σ₂ (fun u σ₃ => ∃ n : Nat, u = .int n ∧ K (some n) σ₃) : (Option Nat → St → Prop) → Prop) (fun j σ₃ =>
        ∃ vs, σ₃.hp[l]? = some (.list vs) ∧ vs.length ≤ 2 ^ 20 ∧ Q (.ref σ₃.hp.length) ⟨σ₃.loc, σ₃.hp ++ [.list (cutL vs i j)]⟩))))
    (ht : ∀ o r, letTemporaryGo value o r = pure () := by intro _ _; rfl) :
    EV c d fx (eval (.Subscript value (.Slice lo hi none sp) pos) fx.env) σ Q := fun ρ s A R r => by
  have opt : ∀ (o : Option Expr) (ρ : List Addr) (σ : St) (s : Shared) (K : Option Nat → St → Prop), RelS c fx ρ σ s →
      (match o with | none => fun K => K none σ | some e => fun K => EV c d fx (eval e fx.env) σ (fun u σ₂ => ∃ n : Nat, u = .int n ∧ K (some n) σ₂) : (Option Nat → St → Prop) → Prop) K →
      wpAny c.M A (evalPart o fx.env) (fun y s' => ∃ ρ' σ' n, ρ <+: ρ' ∧ Ext fx ρ s.heap ρ' s'.heap ∧ RelS c fx ρ' σ' s' ∧ IsPart y (n.map Int.ofNat) ∧ K n σ') noE s := by
    intro o ρ σ s K r hK
    cases o with
    | none => exact wpAny_pure ⟨ρ, σ, none, List.prefix_refl _, .refl _ _ _, r, .none, hK⟩
    | some e =>
      refine wpAny_mono (hK ρ s A R r) ?_ fun _ _ z => z
      rintro y s' ⟨ρ', _, σ', p, e', r', hv, n, rfl, k⟩
      cases hv using VR.intC with
      | int t => exact ⟨ρ', σ', some n, p, e', r', .int _ _, k⟩
  refine wpAny_Subscript_list_slice (wpAny_mono (h ρ s A R r) ?_ fun _ _ e => e) ht
  rintro x s₁ ⟨ρ₁, _, σ₁, p₁, e₁, r₁, v₁, l, rfl, h₁⟩
  refine wpAny_mono (opt lo ρ₁ σ₁ s₁ _ r₁ h₁) ?_ fun _ _ z => z
  rintro y s₂ ⟨ρ₂, σ₂, i, p₂, e₂, r₂, hy, h₂⟩
  refine wpAny_mono (opt hi ρ₂ σ₂ s₂ _ r₂ h₂) ?_ fun _ _ z => z
  rintro z s₃ ⟨ρ₃, ⟨loc₃, hp₃⟩, j, p₃, e₃, r₃, hz, vs, hl, hlen, q⟩
  cases v₁ using VR.refC with
  | ref ha =>
    rename_i a
    have ha₃ := pre_get p₃ (pre_get p₂ ha)
    obtain ⟨x, g1, xs, n, rfl, g2⟩ := r₃.1.obj l a _ ha₃ hl
    refine ⟨a, xs.toArray, _, _, rfl, ⟨_, g1, rfl, n, rfl⟩, by rw [sizeLine_eq]; simp [← g2.length]; omega, hy, hz, ?_⟩
    rw [pick_cut]
    have r₄ : Rel c fx ρ₃ ⟨loc₃, hp₃⟩ (s₃.heap.push { cls := .type "slice", data := .fields #[y, z, .none] }) := r₃.1.push _
    have r₅ := r₄.alloc (o := .list (cutL vs i j)) (x := { cls := .type "list", data := .seq (cutL xs i j).toArray }) rfl ⟨_, _, rfl, (g2.cutL).mono (pre_snoc _ _) fun _ _ _ e => Heap.get?_push_of_some _ (Heap.get?_push_of_some _ e)⟩
    rw [Heap.size_push] at r₅
    refine ⟨ρ₃ ++ [s₃.heap.objs.size + 1], _, _, ((p₁.trans p₂).trans p₃).trans (pre_snoc _ _), ?_, ⟨r₅, r₃.2⟩, .ref (by rw [← r₃.1.len]; simp), q⟩
    refine ((e₁.trans e₂ r₁.1.hasL).trans e₃ r₂.1.hasL).trans ?_ r₃.1.hasL
    refine Ext.trans (.push _) ?_ r₄.hasL
    have := Ext.alloc (fx := fx) (ρ := ρ₃) (h := s₃.heap.push { cls := .type "slice", data := .fields #[y, z, .none] }) { cls := .type "list", data := .seq (cutL xs i j).toArray }
    rw [Heap.size_push] at this
    exact this
end
end Mine
namespace Mine
open PySem PySem.W PyProof.Rows PySem.SeqAt
section
variable {c : Cx} {d k : Nat} {fx : Fx} {ρ ρ' ρ'' : List Addr} {σ σ' : St} {h h' h'' : Heap} {s s' s₁ : Shared} {A : Around} {Q : V → St → Prop} {X : Fl → St → Prop}
  {loc loc' : List (Str × V)} {hp hp' : List O}
end
end Mine
namespace Mine
open PySem PySem.W PyProof.Rows
section
variable {c : Cx} {d k : Nat} {fx : Fx} {ρ ρ' ρ'' : List Addr} {σ σ' : St} {h h' h'' : Heap} {s s' s₁ : Shared} {A : Around} {Q : V → St → Prop} {X : Fl → St → Prop}
  {loc loc' : List (Str × V)} {hp hp' : List O}
theorem Post.keeps {v : V} {x : Value} {tk : Tok} (r : RelS c fx ρ σ s) (hk : ∀ b o, s.heap.get? b = some o → h'.get? b = some o) (hv : VR ρ s.heap v x) (q : Q v σ) : Post c fx ρ s Q x { s with heap := h', toks := tk } :=
  ⟨ρ, v, σ, List.prefix_refl _, .ext hk, ⟨r.1.ext hk, r.2⟩, hv.mono (List.prefix_refl _) fun _ _ _ e => hk _ _ e, q⟩
theorem VRs.ints' : ∀ {ns : List Int} {xs : List Value}, VRs ρ h (ns.map V.int) xs → ∃ ts : List (Int × Tok), xs = ts.map (fun p => Value.int p.1 p.2) ∧ ts.map (·.1) = ns
  | [], _, w => by cases w using VRs.nilC; exact ⟨[], rfl, rfl⟩
  | n :: ns, _, w => by
    cases w using VRs.consC with
    | cons v r => cases v using VR.intC with
      | int t =>
        obtain ⟨ts, e1, e2⟩ := VRs.ints' r
        exact ⟨(n, t) :: ts, by rw [e1]; rfl, by rw [← e2]; rfl⟩
theorem preSum_take (ns : List Int) : ∀ j, j ≤ ns.length → preSum (fun i => ns[i]?.getD 0) j = (ns.take j).sum
  | 0, _ => by simp [preSum]
  | j + 1, hj => by
    unfold preSum
    have e : ns.take (j + 1) = ns.take j ++ [ns[j]] := by rw [List.take_add_one, List.getElem?_eq_getElem (by omega)]; rfl
    rw [preSum_take ns j (by omega), e, List.sum_append, List.getElem?_eq_getElem (by omega)]
    simp
theorem sum_bound : ∀ (ns : List Int), (∀ n ∈ ns, -1000000 ≤ n ∧ n ≤ 1000000) → -1000000 * (ns.length : Int) ≤ ns.sum ∧ ns.sum ≤ 1000000 * (ns.length : Int)
  | [], _ => by simp
  | n :: r, hn => by
    have h1 := hn n (.head _)
    have h2 := sum_bound r fun m hm => hn m (.tail _ hm)
    simp only [List.sum_cons, List.length_cons]
    omega
theorem OVs.sum {i : Nat} {ns : List Int} (ho : σ.hp[i]? = some (.list (ns.map V.int))) (hb : ∀ n ∈ ns, -1000000 ≤ n ∧ n ≤ 1000000) (hl : ns.length ≤ 1000000) (q : Q (.int ns.sum) σ) :
    OVs c d fx (fun xs => PySem.call (.builtin "sum") xs) [.ref i] σ Q := fun ρ s A xs R r va => by
  cases va using VRs.consC with
  | cons v1 v2 =>
    cases v2 using VRs.nilC
    cases v1 using VR.refC with
    | ref ha =>
      rename_i b
      obtain ⟨a, ys, n, h1, h2, h3, h4⟩ := r.1.toHRel.list ho
      have eab : b = a := Option.some.inj (ha.symm.trans h1)
      subst eab
      obtain ⟨ts, rfl, e2⟩ := VRs.ints' h3
      have e3 : ∀ j, numAt ts.toArray j = ns[j]?.getD 0 := fun j => by
        unfold numAt; rw [← e2]; simp
      have e4 : numAt ts.toArray = fun j => ns[j]?.getD 0 := funext e3
      have hlen : ts.length = ns.length := by rw [← e2]; simp
      refine sum_intList (xs := ts.toArray) R.handled (by unfold intItems; simpa using h4) (fun j hj => ?_) fun h' tk t' hk => ?_
      · have hj' : j < ns.length := by simpa [hlen] using hj
        rw [e4, preSum_take _ _ (by omega)]
        have b1 := hb ns[j] (List.getElem_mem hj')
        have b2 := sum_bound (ns.take (j + 1)) fun m hm => hb m (List.mem_of_mem_take hm)
        have b3 : (ns.take (j + 1)).length ≤ 1000000 := by rw [List.length_take]; omega
        have e : ns[j]?.getD 0 = ns[j] := by simp [hj']
        refine ⟨by simp only [e]; unfold InLong; omega, by unfold InLong; omega⟩
      · have e : preSum (numAt ts.toArray) ts.toArray.size = ns.sum := by
          rw [e4, preSum_take _ _ (by simp [hlen])]
          simp [hlen]
        rw [e]
        exact Post.keeps r hk (.int _ _) q
theorem list_post {vs : List V} {xs : List Value} {n : Nat} {tk : Tok} (r : RelS c fx ρ σ s) (hv : VRs ρ s.heap vs xs) (q : Q (.ref σ.hp.length) ⟨σ.loc, σ.hp ++ [.list vs]⟩) : Post c fx ρ s Q (.ref s.heap.objs.size) { s with heap := s.heap.push (listObj xs.toArray n), toks := tk } := by
  obtain ⟨loc, hp⟩ := σ
  have ho : OR (ρ ++ [s.heap.objs.size]) (s.heap.push (listObj xs.toArray n)) (.list vs) (listObj xs.toArray n) := ⟨xs, n, rfl, hv.mono (pre_snoc ..) fun _ _ _ e => Heap.get?_push_of_some _ e⟩
  refine ⟨ρ ++ [s.heap.objs.size], .ref hp.length, _, pre_snoc .., .alloc _, ⟨r.1.alloc rfl ho, r.2⟩, .ref ?_, q⟩
  rw [← r.1.len, List.getElem?_append_right (Nat.le_refl _)]; simp
theorem OV2.add_list {i j : Nat} {vs us : List V} (h1 : σ.hp[i]? = some (.list vs)) (h2 : σ.hp[j]? = some (.list us)) (hz : vs.length + us.length ≤ 100000) (q : Q (.ref σ.hp.length) ⟨σ.loc, σ.hp ++ [.list (vs ++ us)]⟩) : OV2 c d fx (binaryOp .Add) (.ref i) (.ref j) σ Q := fun ρ s A x y R r vx vy => by
  cases vx using VR.refC with
  | ref ha => cases vy using VR.refC with
    | ref hb =>
      rename_i a b
      obtain ⟨x, g1, xs, n, rfl, g2⟩ := r.1.obj i a _ ha h1
      obtain ⟨y, g3, ys, m, rfl, g4⟩ := r.1.obj j b _ hb h2
      refine P.add_list g1 g3 ?_ (by simp [sizeLine_eq, ← g2.length, ← g4.length]; omega)
      have := list_post (n := 0) (tk := s.toks) r (g2.append g4) q
      simpa using this
theorem flat_rep {ρ : List Addr} {h : Heap} {vs : List V} {xs : List Value} (r : VRs ρ h vs xs) : ∀ n, VRs ρ h (List.replicate n vs).flatten (List.replicate n xs).flatten
  | 0 => by simp; exact .nil
  | n + 1 => by simp only [List.replicate_succ, List.flatten_cons]; exact r.append (flat_rep r n)
theorem OV2.mul_list {i : Nat} {vs : List V} {n : Nat} (h1 : σ.hp[i]? = some (.list vs)) (hz : vs.length * n ≤ 100000) (hn : n ≤ 100000) (q : Q (.ref σ.hp.length) ⟨σ.loc, σ.hp ++ [.list (List.replicate n vs).flatten]⟩) : OV2 c d fx (binaryOp .Mult) (.ref i) (.int n) σ Q := fun ρ s A x y R r vx vy => by
  cases vx using VR.refC with
  | ref ha => cases vy using VR.intC with
    | int u =>
      rename_i a
      obtain ⟨x, g1, xs, m, rfl, g2⟩ := r.1.obj i a _ ha h1
      have e0 : ((n : Int)).toNat = n := Int.toNat_natCast n
      have hsz' : xs.toArray.size * ((n : Int)).toNat ≤ 100000 := by rw [e0, List.size_toArray, ← g2.length]; exact hz
      have hc0 : ¬(!Builtin.List.listFitsIndex (n : Int)) = true := by
        have : Builtin.List.listFitsIndex (n : Int) = true := by
          unfold Builtin.List.listFitsIndex
          rw [Bool.and_eq_true]
          exact ⟨decide_eq_true (by omega), decide_eq_true (by omega)⟩
        rw [this]; decide
      have hc2 : ¬Builtin.List.listTooLong (xs.toArray.size * ((n : Int)).toNat) = true := by
        unfold Builtin.List.listTooLong
        rw [sizeLine_eq]
        simp only [decide_eq_true_eq]
        omega
      have hc1 : ¬xs.toArray.size * ((n : Int)).toNat > (2 ^ 63 - 1) / 8 := by
        generalize hK : (2 ^ 63 - 1) / 8 = K
        have : K = 1152921504606846975 := by rw [← hK]
        omega
      generalize hN : ((n : Int)) = N at hc0 hc1 hc2 e0 ⊢
      have hm := lm_list_mul_any a xs.toArray m none #[] N u hc0 hc1 hc2
      have hr := lm_int_rmul_list_any N u a xs.toArray m none #[]
      refine wpAny_binaryOp_repeat_ref (T := "list") (U := "int") (by decide) ⟨_, g1, rfl⟩ (fun s' => typeIs_int s' N u) noFill_list_mul F.fills_int_mul F.slot_int_rmul repeat_list F.slot_int_index.lookup
        (call_meets F.slot_int_rmul (typeIs_int s N u) F.entry_int_rmul (F.args_int_rmul_2 _ _) hr
          ⟨g1, rfl, ⟨_, g1, rfl⟩, call_meets F.slot_list_mul ⟨_, g1, rfl⟩ F.entry_list_mul (F.args_list_mul_2 _ _)
            hm
            ⟨g1, ?_⟩⟩)
      rw [listMul_foldl_if, e0]
      have := list_post (n := 0) (tk := s.toks) r (flat_rep g2 n) q
      simpa using this
end
end Mine
namespace Mine
open PySem PySem.W PyProof.Rows
section
variable {c : Cx} {d k : Nat} {fx : Fx} {ρ ρ' ρ'' : List Addr} {σ σ' : St} {h h' h'' : Heap} {s s' s₁ : Shared} {A : Around} {Q : V → St → Prop} {X : Fl → St → Prop}
  {loc loc' : List (Str × V)} {hp hp' : List O}
theorem ownedGo_list {elts : List Expr} {x1 : Nat} {pos : Pos} {I l : Addr} {i : Nat} {x : Value} {R : Unit → Shared → Prop} {E : Value → Shared → Prop} (hit : s.heap.IsListIter I l i) (hQ : R () s) :
    wpAny c.M A (letOwnedTupleGo (.Tuple elts x1 pos) (.ref I) x) R E s := by
  cases x with
  | ref a => exact wpAny_letOwnedTupleGo_listiter hit hQ
  | _ => exact wpAny_pure hQ
end
end Mine
namespace Mine
open PySem PySem.W PyProof.Rows
section
variable {c : Cx} {d k : Nat} {fx : Fx} {ρ ρ' ρ'' : List Addr} {σ σ' : St} {h h' h'' : Heap} {s s' s₁ : Shared} {A : Around} {Q : V → St → Prop} {X : Fl → St → Prop}
  {loc loc' : List (Str × V)} {hp hp' : List O}
theorem EV.unary {x : Expr} {op pos} (h : EV c d fx (eval x fx.env) σ (fun v σ₁ => OV1 c d fx (unaryOp op) v σ₁ Q)) : EV c d fx (eval (.UnaryOp op x pos) fx.env) σ Q := fun ρ s A R r =>
  UnaryOp_ (bindEE R r h)
theorem OV1.neg_int {a : Int} (q : Q (.int (-a)) σ) : OV1 c d fx (unaryOp .USub) (.int a) σ Q := fun ρ s A x R r vx => by
  cases vx using VR.intC
  exact P.neg_int (Post.same r rfl rfl rfl (.int _ _) q)
end
end Mine
namespace Mine
open PySem PySem.W PyProof.Rows
section
variable {c : Cx} {d k : Nat} {fx : Fx} {ρ ρ' ρ'' : List Addr} {σ σ' : St} {h h' h'' : Heap} {s s' s₁ : Shared} {A : Around} {Q : V → St → Prop} {X : Fl → St → Prop}
  {loc loc' : List (Str × V)} {hp hp' : List O}
noncomputable abbrev EVp := EVn 1
theorem EVp.of {t : Sem Value} (h : EV c d fx t σ Q) : EVp c d fx t σ Q := fun ρ s A R r _ => h ρ s A R r
theorem EV.binopK {x : Str} {l : List Nat} {k0 : Nat} {p0 : Pos} {r : Expr} {op pos} (h : EVp c d fx (eval r fx.env) σ (fun u σ₂ => OV2 c d fx (binaryOp op) (.str l) u σ₂ Q)) (e : x.cps.toList = l := by rfl) :
    EV c d fx (eval (.BinOp (.Constant (.str x) k0 p0) op r pos) fx.env) σ Q := fun ρ s A R r => by
  refine wpAny_BinOp (Calls.Constant_str ?_)
  have r₁ : RelS c fx ρ σ { s with toks := s.toks + 1 } := r
  refine wpAny_mono (h ρ { s with toks := s.toks + 1 } A R r₁ (Nat.succ_pos _)) ?_ fun _ _ e => e
  rintro y s₂ ⟨ρ₂, u, σ₂, p₂, e₂, r₂, v₂, h₂⟩
  exact wpAny_mono (h₂ ρ₂ s₂ A _ y R r₂ (.str _ e) v₂) (fun _ _ z => z.trans p₂ e₂ r₂) fun _ _ e => e
theorem EVp.replace {o : Expr} {apos pos : Pos} {y z : Str} {k1 k2 : Nat} {q1 q2 : Pos} {pl : Sem Bool}
    (h : EVp c d fx (eval o fx.env) σ (fun u σ₁ => ∃ l, u = .str l ∧ l.length ≤ 100000 ∧ ∀ x : Str, x.cps.toList = l → Q (.str (Txt.replace x y z).cps.toList) σ₁)) (hyz : (y == z) = false := by decide) (hz : z.length ≤ 14 := by decide)
    (he : MethForm fx o "replace" apos [.Constant (.str y) k1 q1, .Constant (.str z) k2 q2] pos pl := by rfl) :
    EVp c d fx (eval (.Call (.Attribute o "replace" apos) [.Constant (.str y) k1 q1, .Constant (.str z) k2 q2] [] pos) fx.env) σ Q := fun ρ s A R r ht => by
  refine MethodCall_ (wpAny_mono (wpAny_toks (n := 1) ht (h ρ s A R r ht)) ?_ fun _ _ e => e) he
  rintro x s₁ ⟨⟨ρ₁, u, σ₁, p₁, e₁, r₁, v₁, l, rfl, hl, h₁⟩, ht₁⟩
  cases v₁ using VR.strC with
  | str t ex =>
    rename_i x
    refine GM.replace ?_
    have sp : starEach [.Constant (.str y) k1 q1, .Constant (.str z) k2 q2] fx.env = [Expr.Constant (.str y) k1 q1, .Constant (.str z) k2 q2].map fun e => (false, eval e fx.env) := rfl
    have args : wpAny c.M A (spliced (backTo pos (starEach [.Constant (.str y) k1 q1, .Constant (.str z) k2 q2] fx.env))) (fun vs s₂ => vs = [.str y s₁.toks, .str z (s₁.toks + 1)] ∧ s₂ = { s₁ with toks := s₁.toks + 2 }) noE s₁ := by
      refine args_cons (Calls.Constant_str ?_) rfl
      refine args_cons (Calls.Constant_str ?_) rfl
      exact args_nil ⟨rfl, rfl⟩
    rw [sp, backTo_plain] at args ⊢
    refine callWith_of (P := fun _ => True) (by rw [any_plain]; rfl) (fun h _ => ⟨.machine, .inr (.inl rfl), Looks.of_pure rfl⟩) (evalArgs_V _ ?_)
    refine wpAny_mono (Q := fun vs s₂ => vs = [.str y s₁.toks, .str z (s₁.toks + 1)] ∧ s₂ = { s₁ with toks := s₁.toks + 2 }) ?_ ?_ fun _ _ e => e
    · exact args
    rintro _ _ ⟨rfl, rfl⟩
    refine ⟨trivial, ?_⟩
    have hx : x.length ≤ 1048576 := by
      have : x.length = l.length := by rw [← ex]; exact (Array.length_toList).symm
      omega
    refine SC.replaceW (Nat.pos_iff_ne_zero.mp ht₁) (Nat.succ_ne_zero _) (Nat.ne_of_lt (Nat.lt_succ_self _)) hyz hx hz fun t' k => ?_
    refine Post.trans p₁ e₁ r₁ ?_
    exact Post.same r₁ rfl rfl rfl (.str _ rfl) (h₁ x ex)
end
end Mine
namespace Mine
open PySem PySem.W PyProof.Rows Builtin Builtin.Str
section
variable {c : Cx} {d k : Nat} {fx : Fx} {ρ ρ' ρ'' : List Addr} {σ σ' : St} {h h' h'' : Heap} {s s' s₁ : Shared} {A : Around} {Q : V → St → Prop} {X : Fl → St → Prop}
  {loc loc' : List (Str × V)} {hp hp' : List O}
end
end Mine
namespace Mine
open PySem PySem.W PyProof.Rows
section
variable {ρ : List Addr} {h : Heap} {K : Type} [DecidableEq K]
end
structure DKd (c : Cx) (K : Type) [DecidableEq K] (knd : KeyKind c.prog c.w K) (mk : Nat → List (K × V) → O) (kv : K → V) : Prop where
  mkOR : ∀ ρ h i kvs o, OR ρ h (mk i kvs) o ↔ ∃ a xs, ρ[i]? = some a ∧ (a == sysModules) = false ∧ o.IsDictOf knd xs ∧ PR ρ h kvs xs
  key : ∀ ρ h k x, VR ρ h (kv k) x → knd.is k x = true
section
variable {c : Cx} {d k : Nat} {fx : Fx} {ρ ρ' ρ'' : List Addr} {σ σ' : St} {h h' h'' : Heap} {s s' s₁ : Shared} {A : Around} {Q : V → St → Prop} {X : Fl → St → Prop}
  {loc loc' : List (Str × V)} {hp hp' : List O} {K : Type} [DecidableEq K] {knd : KeyKind c.prog c.w K} {mk : Nat → List (K × V) → O} {kv : K → V}
noncomputable def SetI (c : Cx) (d : Nat) (fx : Fx) (u w v : V) (σ : St) (Q : St → Prop) : Prop :=
  ∀ ρ s A x y z, Room d A → RelS c fx ρ σ s → VR ρ s.heap u x → VR ρ s.heap w y → VR ρ s.heap v z → wpAny c.M A (setItem x y z) (PostU c fx ρ s (fun _ σ' => Q σ')) noE s
theorem SetI.list {l : Nat} {vs : List V} {k : Int} {v : V} {Q : St → Prop} (ho : σ.hp[l]? = some (.list vs)) (h0 : 0 ≤ k) (hn : k < vs.length) (hb : vs.length < 2 ^ 62) (q : Q ⟨σ.loc, σ.hp.set l (.list (vs.set k.toNat v))⟩) : SetI c d fx (.ref l) (.int k) v σ Q := fun ρ s A x y z R r vx vy vz => by
  obtain ⟨loc, hp⟩ := σ
  cases vx using VR.refC with
  | ref ha => cases vy using VR.intC; exact setItemV r ha ho h0 hn hb vz fun s' e' r' => ⟨ρ, _, List.prefix_refl _, e', r', q⟩
theorem XV.setsubO {o i : Expr} {pos' : Pos} {value : Expr} {pos : Pos}
    (h : EV c d fx (eval value fx.env) σ (fun v σ₁ => EV c d fx (eval o fx.env) σ₁ (fun u σ₂ => EV c d fx (eval i fx.env) σ₂ (fun w σ₃ => SetI c d fx u w v σ₃ (fun σ' => X .next σ')))))
    (hs : swapsWith value (some (.Subscript o i pos')) pos.line fx.env = pure false := by rfl) : XV c d fx (exec (.Assign [.Subscript o i pos'] value pos) fx.env) σ X := fun ρ s A R r => by
  refine wpAny_Assign_Subscript (wpAny_mono (h ρ s A R r) ?_ fun _ _ e => e) hs
  rintro x s₁ ⟨ρ₁, v, σ₁, p₁, e₁, r₁, v₁, h₁⟩
  refine wpAny_mono (h₁ ρ₁ s₁ A R r₁) ?_ fun _ _ e => e
  rintro y s₂ ⟨ρ₂, u, σ₂, p₂, e₂, r₂, v₂, h₂⟩
  refine wpAny_mono (h₂ ρ₂ s₂ A R r₂) ?_ fun _ _ e => e
  rintro z s₃ ⟨ρ₃, w, σ₃, p₃, e₃, r₃, v₃, h₃⟩
  refine wpAny_mono (h₃ ρ₃ s₃ A y z x R r₃ (v₂.mono p₃ (r₂.1.immKeep e₃.keep)) v₃ ((v₁.mono p₂ (r₁.1.immKeep e₂.keep)).mono p₃ (r₂.1.immKeep e₃.keep))) ?_ fun _ _ e => e
  rintro _ s₄ ⟨ρ₄, σ₄, p₄, e₄, r₄, q⟩
  exact ⟨ρ₄, .next, σ₄, ((e₁.trans e₂ r₁.1.hasL).trans e₃ r₂.1.hasL).trans e₄ r₃.1.hasL, r₄, .next, q⟩
end
end Mine
namespace Mine
open PySem PySem.W PyProof.Rows
section
variable {c : Cx} {d k : Nat} {fx : Fx} {ρ ρ' ρ'' : List Addr} {σ σ' : St} {h h' h'' : Heap} {s s' s₁ : Shared} {A : Around} {Q : V → St → Prop} {X : Fl → St → Prop}
  {loc loc' : List (Str × V)} {hp hp' : List O}
theorem str_item {x : Str} {l : List Nat} (e : x.cps.toList = l) {i : Nat} (hi : i < l.length) : x.cps[i]? = some (l.getD i 0) := by
  subst e
  rw [List.getD_eq_getElem?_getD, List.getElem?_eq_getElem hi]
  simp at hi
  simp [hi]
theorem str_end {x : Str} {l : List Nat} (e : x.cps.toList = l) : x.cps[l.length]? = none := by subst e; simp
theorem It.strA {x : Str} {t : Tok} {l : List Nat} {it : Addr} (e : x.cps.toList = l) : It c ρ it l.length (fun i => .str [l.getD i 0]) (fun _ => True) (fun i h => h.IsStrIter it "str_ascii_iterator" x t i) where
  next := fun fx i ρ' σ s A R E hi hh hC hp r hJ q => wpAny_pyNext_ascii_item hJ (str_item e hi) fun h' hit hs => q _ h' _ (.str _ rfl) hit (.of_sameBut hs)
  done := fun fx ρ' σ s A R E hh hC hp r hJ q => wpAny_pyNext_ascii_end hh hJ (str_end e) fun h' hx => q h' s.toks (.of_extBut hx)
  self := fun i s A R E hJ h => wpAny_pyIter_striter_ascii hJ h
  keep := fun i h h' hJ k _ => let ⟨o, e, r⟩ := hJ; ⟨o, k o e, r⟩
  at_ := fun i h ⟨o, e, e2, e3⟩ => ⟨o, e, notFix_of e2 (by decide)⟩
theorem It.strW {x : Str} {t : Tok} {l : List Nat} {it : Addr} (e : x.cps.toList = l) : It c ρ it l.length (fun i => .str [l.getD i 0]) (fun _ => True) (fun i h => h.IsStrIter it "str_iterator" x t i) where
  next := fun fx i ρ' σ s A R E hi hh hC hp r hJ q => wpAny_pyNext_wide_item hJ (str_item e hi) fun h' hit hs => q _ h' _ (.str _ rfl) hit (.of_sameBut hs)
  done := fun fx ρ' σ s A R E hh hC hp r hJ q => wpAny_pyNext_wide_end hh hJ (str_end e) fun h' hx => q h' s.toks (.of_extBut hx)
  self := fun i s A R E hJ h => wpAny_pyIter_striter_wide hJ h
  keep := fun i h h' hJ k _ => let ⟨o, e, r⟩ := hJ; ⟨o, k o e, r⟩
  at_ := fun i h ⟨o, e, e2, e3⟩ => ⟨o, e, notFix_of e2 (by decide)⟩
theorem Src.str {l : List Nat} : Src c fx (.str l) σ l.length (fun i => .str [l.getD i 0]) (fun _ => True) := fun ρ s A x R E hh r vx q => by
  cases vx using VR.strC with
  | str t e =>
    rename_i x
    cases ha : x.cps.all (· < 128) with
    | true =>
      refine wpAny_pyIter_ascii ha ?_
      exact q _ _ _ s.toks (fun _ _ e => Heap.get?_push_of_some _ e) (by rw [Heap.size_push]; exact Nat.le_succ _) (get_none_of_lt (Nat.le_refl _)) (r.1.size₀ (Nat.le_refl _)) (It.strA (t := t) e) ⟨_, Heap.get?_push_size _ rfl, rfl, rfl⟩
    | false =>
      refine wpAny_pyIter_wide ha ?_
      exact q _ _ _ s.toks (fun _ _ e => Heap.get?_push_of_some _ e) (by rw [Heap.size_push]; exact Nat.le_succ _) (get_none_of_lt (Nat.le_refl _)) (r.1.size₀ (Nat.le_refl _)) (It.strW (t := t) e) ⟨_, Heap.get?_push_size _ rfl, rfl, rfl⟩
theorem OV2.get {l : Nat} {vs : List V} {k : Int} {v : V} (ho : σ.hp[l]? = some (.list vs)) (h0 : 0 ≤ k) (hv : vs[k.toNat]? = some v) (hb : vs.length < 2 ^ 62) (q : Q v σ) : OV2 c d fx getItem (.ref l) (.int k) σ Q := fun ρ s A x y R r vx vy => by
  cases vx using VR.refC with
  | ref ha =>
    cases vy using VR.intC with
    | int t =>
      rename_i b
      obtain ⟨a, xs, n, h1, h2, h3, h4⟩ := r.1.toHRel.list ho
      have eab : b = a := Option.some.inj (ha.symm.trans h1)
      subst eab
      obtain ⟨y, hy, hv'⟩ := h3.get hv
      have hlt := (List.getElem?_eq_some_iff.mp hv).1
      exact wpAny_getItem_list h4 h0 (by omega) (by simpa using hy) (Post.same r rfl rfl rfl hv' q)
theorem OV2.getN {l : Nat} {vs : List V} {k : Int} {v : V} (ho : σ.hp[l]? = some (.list vs)) (h0 : k < 0) (h1 : 0 ≤ k + vs.length) (hv : vs[(k + vs.length).toNat]? = some v) (hb : vs.length < 2 ^ 62) (q : Q v σ) : OV2 c d fx getItem (.ref l) (.int k) σ Q := fun ρ s A x y R r vx vy => by
  cases vx using VR.refC with
  | ref ha =>
    cases vy using VR.intC with
    | int t =>
      rename_i b
      obtain ⟨a, xs, n, g1, h2, h3, h4⟩ := r.1.toHRel.list ho
      have eab : b = a := Option.some.inj (ha.symm.trans g1)
      subst eab
      obtain ⟨y, hy, hv'⟩ := h3.get hv
      have hl : xs.toArray.size = vs.length := by simp [h3.length]
      exact wpAny_getItem_list_neg h4 h0 (by rw [hl]; omega) (by omega) (by rw [hl]; simpa using hy) (Post.same r rfl rfl rfl hv' q)
theorem setItem_neg {l : Addr} {xs : List Value} {n : Nat} {k : Int} {t : Tok} {v : Value} {R : Unit → Shared → Prop} {E : Value → Shared → Prop} (ho : s.heap.get? l = some (listObj xs.toArray n)) (h0 : k < 0) (h1 : -(xs.length : Int) ≤ k) (hfit : -(2 ^ 63) ≤ k)
    (q : R () { s with heap := s.heap.update l (Obj.mapSeq (·.setIfInBounds (k + xs.length).toNat v)) }) : wpAny c.M A (setItem (.ref l) (.int k t) v) R E s := by
  have hl : s.heap.IsList l xs.toArray := ⟨_, ho, rfl, n, rfl⟩
  have hsz : xs.toArray.size = xs.length := by simp
  unfold setItem
  try with_reducible refine wpAny_holding ?_
  first | refine wpAny_bind (wpAny_pure ?_) | skip
  refine wpAny_bind (wpAny_sequenceKey hl.typeIs (by decide) ?_)
  refine wpAny_bind (wpAny_callSpecial?_slot (name := Str.ofString "__setitem__") hl.typeIs slot_list_setitem
    (wpAny_call_entry slot_list_setitem hl.typeIs entry_list_setitem ?_ (args_list_setitem _ _ _)))
  show wpAny _ _ (Builtin.List.listSubscript? (.int k t) >>= _) _ _ s
  refine wpAny_bind (wpAny_listSubscript_int (fitsIndex_neg h0 hfit) ?_)
  clear hfit
  have hidx := seqIndex_neg h0 (by rw [← hsz] at h1; exact h1)
  have hj : (k + xs.length).toNat < xs.toArray.size := by rw [hsz]; omega
  have hx' : xs.toArray[(k + xs.length).toNat]? = some xs.toArray[(k + xs.length).toNat] := Array.getElem?_eq_getElem hj
  rw [hsz] at hidx
  obtain ⟨j, rfl⟩ : ∃ j : Nat, k = Int.negSucc j := by
    cases k with
    | ofNat n => exact absurd h0 (Int.not_lt.mpr (Int.natCast_nonneg n))
    | negSucc n => exact ⟨n, rfl⟩
  show wpAny _ _ ((Builtin.List.listItems (.ref l) >>= fun xs => pure ((seqIndex? (Int.negSucc j) xs.size).bind fun i => xs[i]?.map (i, ·))) >>= _) _ _ s
  refine wpAny_bind (wpAny_bind ?_)
  show wpAny _ _ (seqItems? (.ref l) >>= _) _ _ s
  refine wpAny_bind (wpAny_seqItems ho rfl (wpAny_pure (wpAny_pure ?_)))
  rw [hsz, hidx]
  simp only [Option.bind_some, hx', Option.map_some]
  refine wpAny_bind (wpAny_setSeqItemAt ho rfl ?_)
  first
    | exact wpAny_bind (wpAny_pure (wpAny_pure ⟨.none, rfl, wpAny_pure q⟩))
    | exact wpAny_pure ⟨.none, rfl, wpAny_pure q⟩
theorem SetI.listN {l : Nat} {vs : List V} {k : Int} {v : V} {Q : St → Prop} (ho : σ.hp[l]? = some (.list vs)) (h0 : k < 0) (hn : 0 ≤ k + vs.length) (hb : vs.length < 2 ^ 62) (q : Q ⟨σ.loc, σ.hp.set l (.list (vs.set (k + vs.length).toNat v))⟩) : SetI c d fx (.ref l) (.int k) v σ Q := fun ρ s A x y z R r vx vy vz => by
  obtain ⟨loc, hp⟩ := σ
  cases vx using VR.refC with
  | ref ha =>
    cases vy using VR.intC
    rename_i t t'
    obtain ⟨x, h2, xs, n, rfl, h3⟩ := r.1.obj l _ _ ha ho
    have hl := h3.length
    refine setItem_neg h2 h0 (by omega) (by omega) ?_
    have hs : Keep [t] s.heap (s.heap.update t (Obj.mapSeq (·.setIfInBounds (k + xs.length).toNat z))) := .of_sameBut (Heap.SameBut.update ..)
    have hg : (s.heap.update t (Obj.mapSeq (·.setIfInBounds (k + xs.length).toNat z))).get? t = some (listObj (xs.set (k + xs.length).toNat z).toArray n) := by
      rw [Heap.get?_update_self _ h2 rfl]
      show some (listObj (xs.toArray.setIfInBounds (k + xs.length).toNat z) (if (xs.toArray.setIfInBounds (k + xs.length).toNat z).size == xs.toArray.size then n else n + 1)) = _
      simp
    have kk : ImmKeep s.heap (s.heap.update t (Obj.mapSeq (·.setIfInBounds (k + xs.length).toNat z))) := r.1.toHRel.immKeep (hs.sub fun b m => by rw [List.mem_singleton] at m; subst m; exact mem_of_get? ha)
    refine ⟨ρ, _, List.prefix_refl _, .upd ha hs, ⟨r.1.upd (o := .list (vs.set (k + xs.length).toNat v)) ha hs hg ⟨_, n, rfl, VRs.set (h3.mono (List.prefix_refl _) kk) (vz.mono (List.prefix_refl _) kk)⟩, r.2⟩, ?_⟩
    rw [← hl]; exact q
theorem XV.augsubO {o i : Expr} {tpos : Pos} {op : Operator} {value : Expr} {pos : Pos}
    (h : EV c d fx (eval o fx.env) σ (fun u σ₁ => EV c d fx (eval i fx.env) σ₁ (fun w σ₂ => OV2 c d fx getItem u w σ₂ (fun v₀ σ₃ =>
      EV c d fx (eval value fx.env) σ₃ (fun v σ₄ => OV2 c d fx (inplaceOp op) v₀ v σ₄ (fun nw σ₅ => SetI c d fx u w nw σ₅ (fun σ' => X .next σ')))))))
    (hi : ∀ ov iv new, augStore i ov iv new = (do holding [new, ov, iv] (setItem ov iv new); release [new, ov, iv] []; pure .next) := by intros; rfl) :
    XV c d fx (exec (.AugAssign (.Subscript o i tpos) op value pos) fx.env) σ X := fun ρ s A R r => by
  refine wpAny_AugAssign_SubscriptAny (wpAny_mono (h ρ s A R r) ?_ fun _ _ e => e) hi
  rintro x s₁ ⟨ρ₁, u, σ₁, p₁, e₁, r₁, v₁, h₁⟩
  refine wpAny_mono (h₁ ρ₁ s₁ A R r₁) ?_ fun _ _ e => e
  rintro y s₂ ⟨ρ₂, w, σ₂, p₂, e₂, r₂, v₂, h₂⟩
  have v₁₂ := v₁.mono p₂ (r₁.1.immKeep e₂.keep)
  refine wpAny_mono (h₂ ρ₂ s₂ A x y R r₂ v₁₂ v₂) ?_ fun _ _ e => e
  rintro z s₃ ⟨ρ₃, v₀, σ₃, p₃, e₃, r₃, v₃, h₃⟩
  refine wpAny_mono (h₃ ρ₃ s₃ A R r₃) ?_ fun _ _ e => e
  rintro z4 s₄ ⟨ρ₄, v, σ₄, p₄, e₄, r₄, v₄, h₄⟩
  have k3 := r₂.1.immKeep e₃.keep
  have k4 := r₃.1.immKeep e₄.keep
  refine wpAny_mono (h₄ ρ₄ s₄ A z z4 R r₄ (v₃.mono p₄ k4) v₄) ?_ fun _ _ e => e
  rintro nw s₅ ⟨ρ₅, w5, σ₅, p₅, e₅, r₅, v₅, h₅⟩
  have k5 := r₄.1.immKeep e₅.keep
  refine wpAny_mono (h₅ ρ₅ s₅ A x y nw R r₅ (((v₁₂.mono p₃ k3).mono p₄ k4).mono p₅ k5) (((v₂.mono p₃ k3).mono p₄ k4).mono p₅ k5) v₅) ?_ fun _ _ e => e
  rintro _ s₆ ⟨ρ₆, σ₆, p₆, e₆, r₆, q⟩
  exact ⟨ρ₆, .next, σ₆, ((((e₁.trans e₂ r₁.1.hasL).trans e₃ r₂.1.hasL).trans e₄ r₃.1.hasL).trans e₅ r₄.1.hasL).trans e₆ r₅.1.hasL, r₆, .next, q⟩
end
end Mine
namespace Mine
open PySem PySem.W PyProof.Rows PySem.SeqAt
section
variable {c : Cx} {d k : Nat} {fx : Fx} {ρ ρ' ρ'' : List Addr} {σ σ' : St} {h h' h'' : Heap} {s s' s₁ : Shared} {A : Around} {Q : V → St → Prop} {X : Fl → St → Prop}
  {loc loc' : List (Str × V)} {hp hp' : List O}
theorem Rel.adopt {a : Addr} {o : O} {x : Obj} (r : Rel c fx ρ ⟨loc, hp⟩ h) (hx : h.get? a = some x) (hn : a ∉ ρ) (h0 : c.H₀.get? a = none) (hL : fx.env.locals ≠ a) (ho : OR (ρ ++ [a]) h o x) : Rel c fx (ρ ++ [a]) ⟨loc, hp ++ [o]⟩ h := by
  obtain ⟨m, hm, hv⟩ := r.loc
  refine { toHRel := ⟨r.keep, by simp [r.len], ?_, fun b m => ?_, fun i b o' e1 e2 => ?_⟩, ok := r.ok, loc := ⟨m, hm, fun x v e => let ⟨u, h1, h2⟩ := hv x v e; ⟨u, h1, h2.mono (pre_snoc ..) (ImmKeep.refl _)⟩⟩,
           lfresh := r.lfresh, lapart := fun m => ?_, pre := r.pre.trans (pre_snoc ..), glob := r.glob, bltn := r.bltn, kind := r.kind, cells := r.cells }
  · rw [List.nodup_append]
    refine ⟨r.nodup, by simp, fun b hb b' hb' e => ?_⟩
    rw [List.mem_singleton] at hb'
    subst hb'; subst e
    exact hn hb
  · rcases List.mem_append.mp m with m | m
    · exact r.fresh b m
    · rw [List.mem_singleton] at m; subst m; exact h0
  · by_cases hi : i < ρ.length
    · rw [List.getElem?_append_left hi] at e1
      rw [List.getElem?_append_left (by rw [← r.len]; exact hi)] at e2
      obtain ⟨y, h1, h2⟩ := r.obj i b o' e1 e2
      exact ⟨y, h1, h2.mono (pre_snoc ..) (ImmKeep.refl _)⟩
    · have hl : i = ρ.length := by
        have := (List.getElem?_eq_some_iff.mp e1).1
        simp at this; omega
      subst hl
      rw [List.getElem?_append_right (Nat.le_refl _)] at e1
      rw [List.getElem?_append_right (by rw [r.len]; exact Nat.le_refl _)] at e2
      rw [r.len] at e2
      simp at e1 e2
      subst e1 e2
      exact ⟨x, hx, ho⟩
  · rcases List.mem_append.mp m with m | m
    · exact r.lapart m
    · rw [List.mem_singleton] at m; exact hL m
end
end Mine
namespace Mine
open PySem PySem.W PyProof.Rows PySem.SeqAt

noncomputable def clB : Stmt → List Stmt
  | .ClassDef _ _ _ body .. => body
  | _ => []
noncomputable def fName : Stmt → Str
  | .FunctionDef n .. => n
  | _ => ""
noncomputable def fArgs : Stmt → Arguments
  | .FunctionDef _ a .. => a
  | _ => ⟨[], [], none, [], [], none, []⟩
noncomputable def fBody : Stmt → List Stmt
  | .FunctionDef _ _ b .. => b
  | _ => []
noncomputable def fScope : Stmt → Scope
  | .FunctionDef _ _ _ _ _ _ s .. => s
  | _ => ⟨.function, [], false, false, []⟩
noncomputable def nthS : List Stmt → Nat → Stmt
  | [], _ => .Pass ⟨0, 0, 0, 0⟩
  | s :: _, 0 => s
  | _ :: r, n + 1 => nthS r n
noncomputable def stmt (n : Nat) : Stmt := nthS PySem.Challenge.pw_dm0214_08.main.body n
noncomputable def meth (n : Nat) : Stmt := nthS (clB (stmt 2)) n

noncomputable def FnK (K : Frag) (a : Addr) (qual : Str) (S : Stmt) : Prop :=
  ∃ oc od doc pm cd ct osl, K.lookup a = some ⟨oc, od, .func (fnX (fName S) qual (fArgs S) (fBody S) (fScope S) [] .none .none doc pm none cd ct), osl⟩ ∧ codeIn K cd qual = true
theorem FnK.top {K : Frag} {a : Addr} {qual : Str} {S : Stmt} : FnK K a qual S → FnTop K a := fun ⟨_, _, _, _, _, _, _, h, _⟩ => ⟨_, _, _, _, h⟩
theorem FV.fn {c : Cx} {k : Nat} {a : Addr} {qual : Str} {S : Stmt} {ns : List Str} {vs : List V} {hp : List O} {Q : V → List O → Prop} (hK : FnK c.K a qual S)
    (hb : ∀ doc pm cd ct, ∀ xs : List Value, ns.length = xs.length → bindArgs (fnX (fName S) qual (fArgs S) (fBody S) (fScope S) [] .none .none doc pm none cd ct) ⟨xs, []⟩ = pure (ns.zip xs)) (hl : ns.length = vs.length) (hnd : ns.Nodup)
    (hloc : ns.all (fun n => (fScope S).names.lookup n == some .local) = true) (hcell : (fScope S).names.any (fun x => x.2 == .cell) = false)
    (h : ∀ L cd ρ₀, ρ₀.length = hp.length → XV c k ⟨envX qual (fScope S) L a cd [], [], ρ₀⟩ (execs (fBody S) (envX qual (fScope S) L a cd [])) ⟨ns.zip vs, hp⟩ (retQ Q))
    (hco : (fScope S).isCoroutine = false := by rfl) (hgen : (fScope S).isGenerator = false := by rfl) (hk : (fScope S).kind = .function := by rfl) :
    FV c (k + 1) (.top a) vs hp Q := by
  obtain ⟨oc, od, doc, pm, cd, ct, osl, h1, h2⟩ := hK
  refine FV.def h1 h2 (hb doc pm cd ct) hl hnd (fun n hn => ?_) (fun x hx e => ?_) (fun L ρ₀ => h L cd ρ₀) hco hgen hk
  · exact beq_iff_eq.mp (List.all_eq_true.mp hloc n hn)
  · have := List.any_eq_false.mp hcell x hx
    rw [e] at this; exact this rfl

structure NetK (K : Frag) (C aI aR aG : Addr) : Prop where
  cls : ClsK K C
  makes : makesIn K C = true
  gC : nsIn K mainGlobals "_netrclex" = some (some (.ref C))
  kC : keepIn K (.ref C) = true
  init : findIn K (.ref C) "__init__" = some (some (.ref aI))
  tI : typeIn K (.ref aI) = some (.type "function")
  fI : FnK K aI "_netrclex.__init__" (meth 0)
  rd : findIn K (.ref C) "_read_char" = some (some (.ref aR))
  tR : typeIn K (.ref aR) = some (.type "function")
  kR : keepIn K (.ref aR) = true
  gR : specialIn K (.ref aR) "__get__" = some (some (.builtin "function.__get__"))
  nR : takesIn K (.ref aR) = some false
  fR : FnK K aR "_netrclex._read_char" (meth 1)
  gt : findIn K (.ref C) "get_token" = some (some (.ref aG))
  tG : typeIn K (.ref aG) = some (.type "function")
  kG : keepIn K (.ref aG) = true
  fG : FnK K aG "_netrclex.get_token" (meth 2)
  a1 : findIn K (.ref C) "lineno" = some none
  a2 : findIn K (.ref C) "instream" = some none
  a3 : findIn K (.ref C) "whitespace" = some none
  a4 : findIn K (.ref C) "pushback" = some none
  a5 : findIn K (.ref C) "read" = some none
  bIter : nsIn K mainGlobals "iter" = some none

noncomputable abbrev at_ (kvs : List (Str × V)) (n : Str) : Option V := kvs.lookup n
section
variable {c : Cx} {C aI aR aG : Addr} {α : Type}
noncomputable def GQ (B : α → List O) (l : List Nat) (b : α) (ext : List O) : V → List O → Prop := fun v hp' => v = .str l ∧ ∃ g, hp' = B b ++ (ext ++ g)
structure Strm (c : Cx) (C : Addr) (α : Type) (k i j : Nat) (B : α → List O) (srd : α → List Nat × α) (kv : α → List (Str × V)) (ln : α → Int) (bump : α → α) : Prop where
  inst : ∀ a, (B a)[i]? = some (.inst C j)
  ns : ∀ a, (B a)[j]? = some (.ns (kv a))
  len : ∀ a, (kv a).length < 1000
  lineno : ∀ a, at_ (kv a) "lineno" = some (.int (ln a))
  bumped : ∀ a, B (bump a) = (B a).set j (.ns (put "lineno" (.int (ln a + 1)) (kv a)))
  read : ∀ a, ∃ si js kvs q fl cl, at_ (kv a) "instream" = some (.ref si) ∧ (B a)[si]? = some (.inst C js) ∧ (B a)[js]? = some (.ns kvs) ∧ at_ kvs "read" = some (.ref q) ∧ (B a)[q]? = some (.fn fl cl) ∧
    ∀ ext, FV c k (.ref q) [.int 1] (B a ++ ext) (GQ B (srd a).1 (srd a).2 ext)
noncomputable def rdOf (srd : α → List Nat × α) (bump : α → α) (a : α) : List Nat × α := if (srd a).1 = [10] then ((srd a).1, bump (srd a).2) else srd a
theorem app_get {α : Type} {l ext : List α} {i : Nat} {o : α} (e : l[i]? = some o) : (l ++ ext)[i]? = some o := by rw [List.getElem?_append_left (List.getElem?_eq_some_iff.mp e).1]; exact e
theorem app_set {α : Type} {l ext : List α} {i : Nat} {o o' : α} (e : l[i]? = some o) : (l ++ ext).set i o' = l.set i o' ++ ext := by rw [List.set_append_left _ _ (List.getElem?_eq_some_iff.mp e).1]

theorem readChar {k i j : Nat} {B : α → List O} {srd : α → List Nat × α} {kv : α → List (Str × V)} {ln : α → Int} {bump : α → α} (N : NetK c.K C aI aR aG) (T : Strm c C α k i j B srd kv ln bump) (a : α) (ext : List O) :
    FV c (k + 3) (.top aR) [.ref i] (B a ++ ext) (GQ B (rdOf srd bump a).1 (rdOf srd bump a).2 ext) := by
  refine FV.fn N.fR (ns := ["self"]) (fun _ _ _ _ xs h => by obtain ⟨_, rfl⟩ := len1 h; rfl) rfl (by decide) (by decide +kernel) (by decide +kernel) fun L cd ρ₀ hρ => ?_
  refine XV.cons (XV.assign ?_)
  obtain ⟨si, js, kvs, q, fl, cl, h1, h2, h3, h4, h5, h6⟩ := T.read a
  refine EV.methA k ?_ (by omega)
  refine EV.attr (EV.var rfl ⟨i, C, j, _, _, rfl, app_get (T.inst a), app_get (T.ns a), h1, N.cls, N.a2, rfl, ?_⟩)
  refine ⟨si, C, js, kvs, q, fl, cl, rfl, app_get h2, app_get h3, h4, app_get h5, N.cls, N.a5, ?_⟩
  refine EVs.cons (EV.cint (EVs.nil ⟨⟨fl, cl, app_get h5⟩, (h6 ext).mono ?_⟩))
  rintro _ _ ⟨rfl, g, rfl⟩
  refine XV.cons (XV.ifB (TV.cmp (EV.var rfl (EV.cstr (l := [10]) (OV2.eq_str ⟨_, rfl, fun hl => ?_, fun hl => ?_⟩)))))
  · have hl : (srd a).1 = [10] := beq_iff_eq.mp hl
    refine XV.cons (XV.augattr (EV.var rfl ⟨i, C, j, _, _, rfl, app_get (T.inst _), app_get (T.ns _), N.cls, N.a1, T.lineno _, rfl, ?_⟩))
    refine EV.cint (OV2.iadd_int ⟨C, _, app_get (T.inst _), app_get (T.ns _), N.cls, N.a1, T.len _, ?_⟩)
    refine XV.nil ?_
    refine XV.cons (XV.ret (EV.var rfl ?_))
    rw [rdOf, if_pos hl]
    exact ⟨rfl, g, by rw [app_set (T.ns _), T.bumped]⟩
  · have hl : ¬ (srd a).1 = [10] := by simpa using hl
    refine XV.nil ?_
    refine XV.cons (XV.ret (EV.var rfl ?_))
    rw [rdOf, if_neg hl]
    exact ⟨rfl, g, rfl⟩

inductive QS (rd : α → List Nat × α) : Nat → α → List Nat → List Nat × α → Prop
  | eof {n : Nat} {a : α} {tok : List Nat} : (rd a).1 = [] → QS rd n a tok (tok, (rd a).2)
  | fin {n : Nat} {a : α} {tok : List Nat} : (rd a).1 = [34] → QS rd n a tok (tok, (rd a).2)
  | esc {n : Nat} {a : α} {tok : List Nat} {R : List Nat × α} : (rd a).1 = [92] → tok.length < 100000 → QS rd n (rd (rd a).2).2 (tok ++ (rd (rd a).2).1) R → QS rd (n + 1) a tok R
  | sign {n : Nat} {a : α} {tok : List Nat} {ch : Nat} {R : List Nat × α} : (rd a).1 = [ch] → ch ≠ 34 → ch ≠ 92 → tok.length < 100000 → QS rd n (rd a).2 (tok ++ [ch]) R → QS rd (n + 1) a tok R
inductive PS (rd : α → List Nat × α) (ws : List Nat) : Nat → α → List Nat → List Nat × α → Prop
  | eof {n : Nat} {a : α} {tok : List Nat} : (rd a).1 = [] → PS rd ws n a tok (tok, (rd a).2)
  | fin {n : Nat} {a : α} {tok : List Nat} {ch : Nat} : (rd a).1 = [ch] → ch ∈ ws → PS rd ws n a tok (tok, (rd a).2)
  | esc {n : Nat} {a : α} {tok : List Nat} {R : List Nat × α} : (rd a).1 = [92] → 92 ∉ ws → tok.length < 100000 → PS rd ws n (rd (rd a).2).2 (tok ++ (rd (rd a).2).1) R → PS rd ws (n + 1) a tok R
  | sign {n : Nat} {a : α} {tok : List Nat} {ch : Nat} {R : List Nat × α} : (rd a).1 = [ch] → ch ∉ ws → ch ≠ 92 → tok.length < 100000 → PS rd ws n (rd a).2 (tok ++ [ch]) R → PS rd ws (n + 1) a tok R
inductive GS (rd : α → List Nat × α) (ws : List Nat) : Nat → α → List Nat × α → Prop
  | eof {n : Nat} {a : α} : (rd a).1 = [] → GS rd ws n a ([], (rd a).2)
  | skip {n : Nat} {a : α} {ch : Nat} {R : List Nat × α} : (rd a).1 = [ch] → ch ∈ ws → GS rd ws n (rd a).2 R → GS rd ws (n + 1) a R
  | quote {n m : Nat} {a : α} {R : List Nat × α} : (rd a).1 = [34] → 34 ∉ ws → QS rd m (rd a).2 [] R → GS rd ws n a R
  | esc {n m : Nat} {a : α} {R : List Nat × α} : (rd a).1 = [92] → 92 ∉ ws → PS rd ws m (rd (rd a).2).2 (rd (rd a).2).1 R → GS rd ws n a R
  | sign {n m : Nat} {a : α} {ch : Nat} {R : List Nat × α} : (rd a).1 = [ch] → ch ∉ ws → ch ≠ 34 → ch ≠ 92 → PS rd ws m (rd a).2 [ch] R → GS rd ws n a R

structure Rdr (c : Cx) (C aR : Addr) (α : Type) (k i j n pb : Nat) (B : α → List O) (rd : α → List Nat × α) (kv : α → List (Str × V)) (ws : α → List Nat) : Prop where
  inst : ∀ a, (B a)[i]? = some (.inst C j)
  ns : ∀ a, (B a)[j]? = some (.ns (kv a))
  size : ∀ a, (B a).length = n
  wsp : ∀ a, at_ (kv a) "whitespace" = some (.str (ws a))
  keep : ∀ a, ws (rd a).2 = ws a
  pbk : ∀ a, at_ (kv a) "pushback" = some (.ref pb) ∧ (B a)[pb]? = some (.list [])
  nord : ∀ a, at_ (kv a) "_read_char" = none
  read : ∀ a ext, FV c k (.top aR) [.ref i] (B a ++ ext) (GQ B (rd a).1 (rd a).2 ext)
  one : ∀ a, (rd a).1 = [] ∨ ∃ ch, (rd a).1 = [ch]

theorem lk_ne {x y : Str} {u v : V} {loc : List (Str × V)} (e : loc.lookup y = some v) (h : (y == x) = false) : (put x u loc).lookup y = some v := by rw [put_lookup, h]; exact e
theorem lk_eq {x : Str} {u : V} {loc : List (Str × V)} : (put x u loc).lookup x = some u := by rw [put_lookup]; simp

structure GI (B : α → List O) (ext : List O) (i n : Nat) (ci : Option (V × V)) (a : α) (tok : List Nat) (σ : St) : Prop where
  self : at_ σ.loc "self" = some (.ref i)
  fit : at_ σ.loc "fiter" = some (.ref (n + ext.length))
  tok : at_ σ.loc "token" = some (.str tok)
  hp : ∃ g, σ.hp = B a ++ (ext ++ .citer ci :: g)
noncomputable abbrev cItr (aR : Addr) (i : Nat) : Option (V × V) := some (.meth (.top aR) (.ref i), .str [])
theorem GI.cit {B : α → List O} {ext : List O} {i n : Nat} {ci : Option (V × V)} {a : α} {tok : List Nat} {σ : St} (h : GI B ext i n ci a tok σ) (hs : (B a).length = n) : σ.hp[n + ext.length]? = some (.citer ci) := by
  obtain ⟨g, e⟩ := h.hp
  rw [e, ← hs, List.getElem?_append_right (by omega), Nat.add_sub_cancel_left, List.getElem?_append_right (by omega)]
  simp
end
end Mine
namespace Mine
open PySem PySem.W PyProof.Rows PySem.SeqAt
section
variable {c : Cx} {C aI aR aG : Addr} {α : Type} {k i j n pb d : Nat} {B : α → List O} {rd : α → List Nat × α} {kv : α → List (Str × V)} {ws : α → List Nat} {ext : List O} {fx : Fx} {σ : St} {a : α} {tok : List Nat} {ci : Option (V × V)}
  {Q : V → St → Prop} {X : Fl → St → Prop}

theorem GI.put {x : Str} {v : V} (G : GI B ext i n ci a tok σ) (h : ((("self" : Str) == x) || (("fiter" : Str) == x) || (("token" : Str) == x)) = false) : GI B ext i n ci a tok ⟨put x v σ.loc, σ.hp⟩ := by
  simp only [Bool.or_eq_false_iff] at h
  exact ⟨lk_ne G.self h.1.1, lk_ne G.fit h.1.2, lk_ne G.tok h.2, G.hp⟩
theorem GI.putTok {tok' : List Nat} (G : GI B ext i n ci a tok σ) : GI B ext i n ci a tok' ⟨Mine.put "token" (.str tok') σ.loc, σ.hp⟩ :=
  ⟨lk_ne G.self (by decide), lk_ne G.fit (by decide), lk_eq, G.hp⟩

theorem GI.inst_ (T : Rdr c C aR α k i j n pb B rd kv ws) (G : GI B ext i n ci a tok σ) : σ.hp[i]? = some (.inst C j) := by
  obtain ⟨g, e⟩ := G.hp; rw [e]; exact app_get (T.inst a)
theorem GI.ns_ (T : Rdr c C aR α k i j n pb B rd kv ws) (G : GI B ext i n ci a tok σ) : σ.hp[j]? = some (.ns (kv a)) := by
  obtain ⟨g, e⟩ := G.hp; rw [e]; exact app_get (T.ns a)
theorem GI.call (T : Rdr c C aR α k i j n pb B rd kv ws) (G : GI B ext i n ci a tok σ) : FV c k (.top aR) [.ref i] σ.hp (fun v hp' => v = .str (rd a).1 ∧ GI B ext i n ci (rd a).2 tok ⟨σ.loc, hp'⟩) := by
  obtain ⟨g, e⟩ := G.hp
  rw [e]
  refine (T.read a _).mono ?_
  rintro _ _ ⟨rfl, g', rfl⟩
  exact ⟨rfl, G.self, G.fit, G.tok, g ++ g', by simp⟩

theorem EV.rdch {p1 p2 p3 : Pos} {pl : Sem Bool} (T : Rdr c C aR α k i j n pb B rd kv ws) (N : NetK c.K C aI aR aG) (G : GI B ext i n ci a tok σ) (hkd : k ≤ d) (hself : fx.env.kindOf "self" = some .local)
    (q : ∀ hp', GI B ext i n ci (rd a).2 tok ⟨σ.loc, hp'⟩ → Q (.str (rd a).1) ⟨σ.loc, hp'⟩) (he : MethForm fx (.Name "self" p1) "_read_char" p2 [] p3 pl := by rfl) : EV c d fx (eval (.Call (.Attribute (.Name "self" p1) "_read_char" p2) [] [] p3) fx.env) σ Q := by
  obtain ⟨g, e⟩ := G.hp
  refine EV.meth k (EV.var G.self ⟨i, C, j, kv a, aR, rfl, by rw [e]; exact app_get (T.inst a), by rw [e]; exact app_get (T.ns a), T.nord a, N.cls, N.rd, N.tR, N.kR, EVs.nil ?_⟩ hself) hkd (he := he)
  refine (G.call T).mono ?_
  rintro _ hp' ⟨rfl, G'⟩
  exact q hp' G'

theorem TurnC.go {pos : Pos} {body : List Stmt} {I : Nat → St → Prop} {m : Nat} (T : Rdr c C aR α k i j n pb B rd kv ws) (N : NetK c.K C aI aR aG) (G : GI B ext i n (cItr aR i) a tok σ) (hch : fx.env.kindOf "ch" = some .local)
    (h0 : (rd a).1 = [] → ∀ σ', GI B ext i n none (rd a).2 tok σ' → X .next σ')
    (h1 : ∀ ch, (rd a).1 = [ch] → ∀ σ', GI B ext i n (cItr aR i) (rd a).2 tok σ' → at_ σ'.loc "ch" = some (.str [ch]) → XV c d fx (execs body fx.env) σ' (turnC I m X)) :
    TurnC c d k fx (n + ext.length) (.Name "ch" pos) body I X m σ := by
  refine .inr ⟨aR, .ref i, [], G.cit (T.size a), N.fR.top, FV.meth ((G.call T).mono ?_)⟩
  rintro _ hp' ⟨rfl, G'⟩
  refine ⟨_, rfl, G'.cit (T.size _), ?_⟩
  rcases T.one a with e | ⟨ch, e⟩
  · rw [if_pos e]
    refine h0 e _ ⟨G'.self, G'.fit, G'.tok, ?_⟩
    obtain ⟨g, e2⟩ := G'.hp
    refine ⟨g, ?_⟩
    have hn := T.size (rd a).2
    show hp'.set _ _ = _
    rw [show hp' = _ from e2, ← hn, List.set_append_right _ _ (by omega), Nat.add_sub_cancel_left, List.set_append_right _ _ (by omega), Nat.sub_self]
    rfl
  · rw [if_neg (by rw [e]; simp)]
    refine OU1.name ?_ hch
    rw [e]
    exact h1 ch e _ (G'.put (by decide)) lk_eq

theorem GS.i0 {w : List Nat} {m : Nat} {R : List Nat × α} (h : GS rd w m a R) (e : (rd a).1 = []) : R = ([], (rd a).2) := by
  cases h with
  | eof _ => rfl
  | _ h1 => rw [e] at h1; cases h1
theorem GS.iw {w : List Nat} {m ch : Nat} {R : List Nat × α} (h : GS rd w m a R) (e : (rd a).1 = [ch]) (hw : ch ∈ w) : ∃ m', m = m' + 1 ∧ GS rd w m' (rd a).2 R := by
  cases h with
  | eof h1 => rw [e] at h1; cases h1
  | skip h1 h2 h3 => exact ⟨_, rfl, h3⟩
  | _ h1 h2 => rw [e] at h1; cases h1; exact absurd hw h2
theorem GS.iq {w : List Nat} {m : Nat} {R : List Nat × α} (h : GS rd w m a R) (e : (rd a).1 = [34]) (hw : 34 ∉ w) : ∃ m₁, QS rd m₁ (rd a).2 [] R := by
  cases h with
  | quote h1 h2 h3 => exact ⟨_, h3⟩
  | skip h1 h2 h3 => rw [e] at h1; cases h1; exact absurd h2 hw
  | sign h1 h2 h3 => rw [e] at h1; cases h1; exact absurd rfl h3
  | _ h1 => rw [e] at h1; cases h1
theorem GS.ip {w : List Nat} {m ch : Nat} {R : List Nat × α} (h : GS rd w m a R) (e : (rd a).1 = [ch]) (hw : ch ∉ w) (hq : ch ≠ 34) : (ch = 92 ∧ ∃ m₁, PS rd w m₁ (rd (rd a).2).2 (rd (rd a).2).1 R) ∨ (ch ≠ 92 ∧ ∃ m₁, PS rd w m₁ (rd a).2 [ch] R) := by
  cases h with
  | eof h1 => rw [e] at h1; cases h1
  | skip h1 h2 h3 => rw [e] at h1; cases h1; exact absurd h2 hw
  | quote h1 h2 h3 => rw [e] at h1; cases h1; exact absurd rfl hq
  | esc h1 h2 h3 => rw [e] at h1; cases h1; exact .inl ⟨rfl, _, h3⟩
  | sign h1 h2 h3 h4 h5 => rw [e] at h1; cases h1; exact .inr ⟨h4, _, h5⟩
theorem QS.i0 {m : Nat} {R : List Nat × α} (h : QS rd m a tok R) (e : (rd a).1 = []) : R = (tok, (rd a).2) := by
  cases h with
  | eof _ => rfl
  | fin _ => rfl
  | _ h1 => rw [e] at h1; cases h1
theorem QS.iq {m : Nat} {R : List Nat × α} (h : QS rd m a tok R) (e : (rd a).1 = [34]) : R = (tok, (rd a).2) := by
  cases h with
  | eof _ => rfl
  | fin _ => rfl
  | esc h1 => rw [e] at h1; cases h1
  | sign h1 h2 => rw [e] at h1; cases h1; exact absurd rfl h2
theorem QS.ie {m : Nat} {R : List Nat × α} (h : QS rd m a tok R) (e : (rd a).1 = [92]) : ∃ m', m' < m ∧ tok.length < 100000 ∧ QS rd m' (rd (rd a).2).2 (tok ++ (rd (rd a).2).1) R := by
  cases h with
  | esc h1 h2 h3 => exact ⟨_, Nat.lt_succ_self _, h2, h3⟩
  | sign h1 h2 h3 => rw [e] at h1; cases h1; exact absurd rfl h3
  | _ h1 => rw [e] at h1; cases h1
theorem QS.is {m ch : Nat} {R : List Nat × α} (h : QS rd m a tok R) (e : (rd a).1 = [ch]) (hq : ch ≠ 34) (hb : ch ≠ 92) : ∃ m', m' < m ∧ tok.length < 100000 ∧ QS rd m' (rd a).2 (tok ++ [ch]) R := by
  cases h with
  | eof h1 => rw [e] at h1; cases h1
  | fin h1 => rw [e] at h1; cases h1; exact absurd rfl hq
  | esc h1 => rw [e] at h1; cases h1; exact absurd rfl hb
  | sign h1 h2 h3 h4 h5 => rw [e] at h1; cases h1; exact ⟨_, Nat.lt_succ_self _, h4, h5⟩
theorem PS.i0 {w : List Nat} {m : Nat} {R : List Nat × α} (h : PS rd w m a tok R) (e : (rd a).1 = []) : R = (tok, (rd a).2) := by
  cases h with
  | eof _ => rfl
  | fin _ => rfl
  | _ h1 => rw [e] at h1; cases h1
theorem PS.iw {w : List Nat} {m ch : Nat} {R : List Nat × α} (h : PS rd w m a tok R) (e : (rd a).1 = [ch]) (hw : ch ∈ w) : R = (tok, (rd a).2) := by
  cases h with
  | eof _ => rfl
  | fin _ => rfl
  | _ h1 h2 => rw [e] at h1; cases h1; exact absurd hw h2
theorem PS.ie {w : List Nat} {m : Nat} {R : List Nat × α} (h : PS rd w m a tok R) (e : (rd a).1 = [92]) (hw : 92 ∉ w) : ∃ m', m' < m ∧ tok.length < 100000 ∧ PS rd w m' (rd (rd a).2).2 (tok ++ (rd (rd a).2).1) R := by
  cases h with
  | eof h1 => rw [e] at h1; cases h1
  | fin h1 h2 => rw [e] at h1; cases h1; exact absurd h2 hw
  | esc h1 h2 h3 h4 => exact ⟨_, Nat.lt_succ_self _, h3, h4⟩
  | sign h1 h2 h3 => rw [e] at h1; cases h1; exact absurd rfl h3
theorem PS.is {w : List Nat} {m ch : Nat} {R : List Nat × α} (h : PS rd w m a tok R) (e : (rd a).1 = [ch]) (hw : ch ∉ w) (hb : ch ≠ 92) : ∃ m', m' < m ∧ tok.length < 100000 ∧ PS rd w m' (rd a).2 (tok ++ [ch]) R := by
  cases h with
  | eof h1 => rw [e] at h1; cases h1
  | fin h1 h2 => rw [e] at h1; cases h1; exact absurd h2 hw
  | esc h1 => rw [e] at h1; cases h1; exact absurd rfl hb
  | sign h1 h2 h3 h4 h5 => rw [e] at h1; cases h1; exact ⟨_, Nat.lt_succ_self _, h4, h5⟩
theorem GI.toR {R : List Nat × α} (G : GI B ext i n ci a tok σ) (e : R = (tok, a)) : GI B ext i n ci R.2 R.1 σ := by rw [e]; exact G
theorem GI.fin {R : List Nat × α} (G : GI B ext i n ci R.2 R.1 σ) : retQ (GQ B R.1 R.2 ext) (.ret (.str R.1)) σ := by
  obtain ⟨g, e⟩ := G.hp
  exact ⟨rfl, _, e⟩
theorem of_eq1 {x y : Nat} (h : ([x] == [y]) = true) : x = y := by simpa using h
theorem of_ne1 {x y : Nat} (h : ([x] == [y]) = false) : x ≠ y := by simpa using h
theorem Rdr.le1 (T : Rdr c C aR α k i j n pb B rd kv ws) (a : α) : (rd a).1.length ≤ 1 := by rcases T.one a with z | ⟨_, z⟩ <;> rw [z] <;> simp
theorem line_ok {l m : List Nat} (h1 : l.length < 100000) (h2 : m.length ≤ 1) : l.length + m.length ≤ sizeLine := by rw [sizeLine_eq]; omega

noncomputable abbrev GJ (B : α → List O) (ext : List O) (i n : Nat) (aR : Addr) (rd : α → List Nat × α) (ws : α → List Nat) (a : α) (R : List Nat × α) (m : Nat) (σ : St) : Prop := (∃ a' m', m = m' + 1 ∧ ws a' = ws a ∧ GS rd (ws a) m' a' R ∧ GI B ext i n (cItr aR i) a' [] σ) ∨ (m = 0 ∧ GI B ext i n none R.2 R.1 σ)
noncomputable abbrev QJ (B : α → List O) (ext : List O) (i n : Nat) (aR : Addr) (rd : α → List Nat × α) (R : List Nat × α) (m : Nat) (σ : St) : Prop := ∃ a' tok, QS rd m a' tok R ∧ GI B ext i n (cItr aR i) a' tok σ
noncomputable abbrev PJ (B : α → List O) (ext : List O) (i n : Nat) (aR : Addr) (rd : α → List Nat × α) (ws : α → List Nat) (a : α) (R : List Nat × α) (m : Nat) (σ : St) : Prop := ∃ a' tok, ws a' = ws a ∧ PS rd (ws a) m a' tok R ∧ GI B ext i n (cItr aR i) a' tok σ
noncomputable abbrev GM (B : α → List O) (ext : List O) (i n : Nat) (aR : Addr) (rd : α → List Nat × α) (ws : α → List Nat) (a : α) (R : List Nat × α) (f : Fl) (σ : St) : Prop := f = .next ∧ ∃ a₆ x m₆, at_ σ.loc "ch" = some (.str x) ∧ x.length ≤ 1 ∧ GI B ext i n (cItr aR i) a₆ [] σ ∧ ws a₆ = ws a ∧ PS rd (ws a) m₆ a₆ x R
theorem getToken {ext : List O} {m : Nat} {R : List Nat × α} (T : Rdr c C aR α k i j n pb B rd kv ws) (N : NetK c.K C aI aR aG) (hR : GS rd (ws a) m a R) :
    FV c (k + 3) (.top aG) [.ref i] (B a ++ ext) (GQ B R.1 R.2 ext) := by
  refine FV.fn N.fG (ns := ["self"]) (fun _ _ _ _ xs h => by obtain ⟨_, rfl⟩ := len1 h; rfl) rfl (by decide) (by decide +kernel) (by decide +kernel) fun L cd ρ₀ hρ => ?_
  refine XV.cons (XV.ifB (TV.plain (EV.attr (EV.var rfl ⟨i, C, j, _, _, rfl, app_get (T.inst a), app_get (T.ns a), (T.pbk a).1, N.cls, N.a4, rfl, OT.list (app_get (T.pbk a).2) (by decide) ⟨fun h => (by cases h), fun _ => ?_⟩⟩))))
  refine XV.nil (XV.cons (XV.assign (EV.cstr (l := []) (XV.cons (XV.assign (EV.callB N.bIter Boot.«iter» (by decide) ?_))))))
  refine EVs.cons (EV.attrM (EV.var rfl ⟨i, C, j, _, aR, rfl, app_get (T.inst a), app_get (T.ns a), T.nord a, N.cls, N.rd, N.tR, N.gR, N.nR, by decide, ?_⟩))
  refine EVs.cons (EV.cstr (l := []) (EVs.nil (OVs.iter2 ?_)))
  have G0 : GI B ext i n (cItr aR i) a [] ⟨put "fiter" (.ref (B a ++ ext).length) (put "token" (.str []) [("self", .ref i)]), B a ++ ext ++ [.citer (cItr aR i)]⟩ :=
    ⟨rfl, by rw [List.length_append, T.size]; rfl, rfl, [], by simp⟩
  refine XV.cons (XV.forC k (EV.var G0.fit ⟨_, _, rfl, G0.cit (T.size a), GJ B ext i n aR rd ws a R, m + 1, .inl ⟨a, m, rfl, rfl, hR, G0⟩, ?_⟩) (by omega))
  intro ρ₁ hρ₁ m σ hI
  refine hI.elim (fun ⟨a', m', hm, hw, hG, G⟩ => ?_) (fun h => .inl ⟨h.2.cit (T.size _), XV.cons (XV.ret (EV.var h.2.tok h.2.fin))⟩)
  refine TurnC.go T N G rfl (fun e σ' G' => XV.cons (XV.ret (EV.var (G'.toR (hG.i0 e)).tok (G'.toR (hG.i0 e)).fin))) (fun ch e σ' G' hch => ?_)
  have hws : ws (rd a').2 = ws a := (T.keep a').trans hw
  refine XV.cons (XV.ifB (TV.cmp (EV.var hch (EV.attr (EV.var G'.self ⟨i, C, j, _, _, rfl, G'.inst_ T, G'.ns_ T, T.wsp _, N.cls, N.a3, rfl, OV2.in_str ⟨_, rfl, fun h => ?_, fun h => ?_⟩⟩)))))
  · exact XV.cons (XV.cont ((hG.iw e (hws ▸ of_decide_eq_true h)).elim fun m'' h3 => ⟨m'' + 1, by omega, .inl ⟨_, _, rfl, hws, h3.2, G'⟩⟩))
  · have h : ch ∉ ws a := hws ▸ of_decide_eq_false h
    refine XV.nil (XV.cons (XV.ifB (TV.cmp (EV.var hch (EV.cstr (l := [34]) (OV2.eq_str ⟨_, rfl, fun h34 => ?_, fun h34 => ?_⟩))))))
    · refine (hG.iq (of_eq1 h34 ▸ e) (of_eq1 h34 ▸ h)).elim fun m₁ hQ => ?_
      refine XV.cons (XV.forC k (EV.var G'.fit ⟨_, _, rfl, G'.cit (T.size _), QJ B ext i n aR rd R, m₁, ⟨_, _, hQ, G'⟩, ?_⟩) (by omega))
      intro ρ₂ hρ₂ m₂ σ₂ ⟨a₂, tok₂, hQ₂, G₂⟩
      refine TurnC.go T N G₂ rfl (fun e₂ σ₃ G₃ => XV.nil (XV.nil ⟨0, by omega, .inr ⟨rfl, G₃.toR (hQ₂.i0 e₂)⟩⟩)) (fun ch₂ e₂ σ₃ G₃ hch₂ => ?_)
      refine XV.cons (XV.ifB (TV.cmp (EV.var hch₂ (EV.cstr (l := [34]) (OV2.eq_str ⟨_, rfl, fun hq => ?_, fun hq => ?_⟩)))))
      · exact XV.cons (XV.ret (EV.var (G₃.toR (hQ₂.iq (of_eq1 hq ▸ e₂))).tok (G₃.toR (hQ₂.iq (of_eq1 hq ▸ e₂))).fin))
      · refine XV.cons (XV.ifB (TV.cmp (EV.var hch₂ (EV.cstr (l := [92]) (OV2.eq_str ⟨_, rfl, fun hb => ?_, fun hb => ?_⟩)))))
        · refine (hQ₂.ie (of_eq1 hb ▸ e₂)).elim fun m₃ h3 => ?_
          refine XV.cons (XV.assign (EV.rdch T N G₃ (by omega) rfl fun hp' G₄ => XV.nil (XV.nil ?_)))
          exact XV.cons (XV.aug (G₄.put (x := "ch") (by decide)).tok (EV.var lk_eq (OV2.iadd_str (line_ok h3.2.1 (T.le1 _)) (XV.nil ⟨_, h3.1, _, _, h3.2.2, (G₄.put (x := "ch") (by decide)).putTok⟩))))
        · refine (hQ₂.is e₂ (of_ne1 hq) (of_ne1 hb)).elim fun m₃ h3 => ?_
          exact XV.nil (XV.nil (XV.cons (XV.aug G₃.tok (EV.var hch₂ (OV2.iadd_str (line_ok h3.2.1 (Nat.le_refl 1)) (XV.nil ⟨_, h3.1, _, _, h3.2.2, G₃.putTok⟩))))))
    · have hP := hG.ip e h (of_ne1 h34)
      refine XV.cons ?_
      refine XV.mono (Q := GM B ext i n aR rd ws a R) ?_ ?_
      · refine XV.ifB (TV.cmp (EV.var hch (EV.cstr (l := [92]) (OV2.eq_str ⟨_, rfl, fun hb => ?_, fun hb => ?_⟩))))
        · refine hP.elim (fun h => h.2.elim fun m₁ hP => ?_) (fun h => absurd (of_eq1 hb) h.1)
          exact XV.cons (XV.assign (EV.rdch T N G' (by omega) rfl fun hp' G₄ => XV.nil ⟨rfl, _, _, m₁, lk_eq, T.le1 _, G₄.put (x := "ch") (by decide), (T.keep _).trans hws, hP⟩))
        · refine hP.elim (fun h => absurd h.1 (of_ne1 hb)) (fun h => h.2.elim fun m₁ hP => ?_)
          exact XV.nil ⟨rfl, _, _, m₁, hch, Nat.le_refl 1, G', hws, hP⟩
      rintro _ σ₆ ⟨rfl, a₆, x₆, m₆, hch₆, hx₆, G₇, hw₆, hP₆⟩
      refine XV.cons (XV.aug G₇.tok (EV.var hch₆ (OV2.iadd_str (line_ok (l := []) (by decide) hx₆) ?_)))
      have G₆ := G₇.putTok (tok' := x₆)
      refine XV.cons (XV.forC k (EV.var G₆.fit ⟨_, _, rfl, G₆.cit (T.size _), PJ B ext i n aR rd ws a R, m₆, ⟨_, _, hw₆, hP₆, G₆⟩, ?_⟩) (by omega))
      intro ρ₂ hρ₂ m₂ σ₂ ⟨a₂, tok₂, hw₂, hP₂, G₂⟩
      have hws₂ : ws (rd a₂).2 = ws a := (T.keep a₂).trans hw₂
      refine TurnC.go T N G₂ rfl (fun e₂ σ₃ G₃ => XV.nil (XV.nil ⟨0, by omega, .inr ⟨rfl, G₃.toR (hP₂.i0 e₂)⟩⟩)) (fun ch₂ e₂ σ₃ G₃ hch₂ => ?_)
      refine XV.cons (XV.ifB (TV.cmp (EV.var hch₂ (EV.attr (EV.var G₃.self ⟨i, C, j, _, _, rfl, G₃.inst_ T, G₃.ns_ T, T.wsp _, N.cls, N.a3, rfl, OV2.in_str ⟨_, rfl, fun hq => ?_, fun hq => ?_⟩⟩)))))
      · have z := G₃.toR (hP₂.iw e₂ (hws₂ ▸ of_decide_eq_true hq))
        exact XV.cons (XV.ret (EV.var z.tok z.fin))
      · have hq : ch₂ ∉ ws a := hws₂ ▸ of_decide_eq_false hq
        refine XV.cons (XV.ifB (TV.cmp (EV.var hch₂ (EV.cstr (l := [92]) (OV2.eq_str ⟨_, rfl, fun hb => ?_, fun hb => ?_⟩)))))
        · refine (hP₂.ie (of_eq1 hb ▸ e₂) (of_eq1 hb ▸ hq)).elim fun m₃ h3 => ?_
          refine XV.cons (XV.assign (EV.rdch T N G₃ (by omega) rfl fun hp' G₄ => XV.nil (XV.nil ?_)))
          exact XV.cons (XV.aug (G₄.put (x := "ch") (by decide)).tok (EV.var lk_eq (OV2.iadd_str (line_ok h3.2.1 (T.le1 _)) (XV.nil ⟨_, h3.1, _, _, (T.keep _).trans hws₂, h3.2.2, (G₄.put (x := "ch") (by decide)).putTok⟩))))
        · refine (hP₂.is e₂ hq (of_ne1 hb)).elim fun m₃ h3 => ?_
          exact XV.nil (XV.nil (XV.cons (XV.aug G₃.tok (EV.var hch₂ (OV2.iadd_str (line_ok h3.2.1 (Nat.le_refl 1)) (XV.nil ⟨_, h3.1, _, _, hws₂, h3.2.2, G₃.putTok⟩))))))
end
end Mine
namespace Mine
open PySem PySem.W PyProof.Rows PySem.SeqAt

noncomputable def FnKc (K : Frag) (a : Addr) (qual : Str) (S : Stmt) (cd : Value) : Prop :=
  ∃ oc od doc pm ct osl, K.lookup a = some ⟨oc, od, .func (fnX (fName S) qual (fArgs S) (fBody S) (fScope S) [] .none .none doc pm none cd ct), osl⟩ ∧ codeIn K cd qual = true
theorem FV.fnC {c : Cx} {k : Nat} {a : Addr} {qual : Str} {S : Stmt} {cd : Value} {ns cs : List Str} {vs : List V} {hp : List O} {Q : V → List O → Prop} (hK : FnKc c.K a qual S cd)
    (hb : ∀ doc pm cd ct, ∀ xs : List Value, ns.length = xs.length → bindArgs (fnX (fName S) qual (fArgs S) (fBody S) (fScope S) [] .none .none doc pm none cd ct) ⟨xs, []⟩ = pure (ns.zip xs)) (hl : ns.length = vs.length) (hnd : ns.Nodup)
    (hcs : cellsFrom 0 (fScope S).names [] = cs.zipIdx.reverse) (hcn : cs.Nodup) (hkn : cs.all (fun n => (fScope S).names.lookup n == some .cell) = true) (hloc : ns.all (fun n => (fScope S).names.lookup n == some .local || cs.contains n) = true)
    (h : ∀ L cells ρ₀, ρ₀.length = hp.length + cs.length → XV c k ⟨envX qual (fScope S) L a cd cells, clOf hp.length cs, ρ₀⟩ (execs (fBody S) (envX qual (fScope S) L a cd cells))
      ⟨(ns.zip vs).filter (fun p => (fScope S).names.lookup p.1 == some .local), hp ++ cs.map fun n => .cell ((ns.zip vs).lookup n)⟩ (retQ Q))
    (hco : (fScope S).isCoroutine = false := by rfl) (hgen : (fScope S).isGenerator = false := by rfl) (hk : (fScope S).kind = .function := by rfl) :
    FV c (k + 1) (.top a) vs hp Q := by
  obtain ⟨oc, od, doc, pm, ct, osl, h1, h2⟩ := hK
  refine FV.defC h1 h2 (hb doc pm cd ct) hl hnd hcs hcn (fun n hn => beq_iff_eq.mp (List.all_eq_true.mp hkn n hn)) (fun n hn => ?_) h hco hgen hk
  have := List.all_eq_true.mp hloc n hn
  rcases Bool.or_eq_true _ _ ▸ this with z | z
  · exact .inl (beq_iff_eq.mp z)
  · exact .inr (by simpa using z)

section
variable {c : Cx} {C aI aR aG : Addr}

noncomputable def kv0 (l : Int) (v : V) (p : Nat) : List (Str × V) := [("lineno", .int l), ("instream", v), ("whitespace", .str [10, 9, 13, 32]), ("pushback", .ref p)]
theorem new_ {v : V} {hp : List O} (N : NetK c.K C aI aR aG) : FV c 3 (.top C) [v] hp (fun u hp' => u = .ref (hp.length + 1) ∧ hp' = hp ++ [.ns (kv0 1 v (hp.length + 2)), .inst C hp.length, .list []]) := by
  refine FV.new N.makes N.init N.tI ?_
  refine FV.fn N.fI (ns := ["self", "fp"]) (fun _ _ _ _ xs h => by obtain ⟨_, _, rfl⟩ := len2 h; rfl) rfl (by decide) (by decide +kernel) (by decide +kernel) fun L cd ρ₀ hρ => ?_
  have e1 : ∀ {a b : O} {r : List O}, (hp ++ a :: b :: r)[hp.length + 1]? = some b := fun {a b r} => by
    rw [List.getElem?_append_right (by omega)]; simp
  have e0 : ∀ {a : O} {r : List O}, (hp ++ a :: r)[hp.length]? = some a := fun {a r} => by
    rw [List.getElem?_append_right (by omega)]; simp
  have es : ∀ {a a' : O} {r : List O}, (hp ++ a :: r).set hp.length a' = hp ++ a' :: r := fun {a a' r} => by
    rw [List.set_append_right _ _ (by omega)]; simp
  refine XV.cons (XV.setattr (EV.cint (EV.var rfl ⟨_, C, _, _, rfl, e1, e0, N.cls, N.a1, (show (0 : Nat) < 1000 by decide), ?_⟩)))
  rw [es]
  refine XV.cons (XV.setattr (EV.var rfl (EV.var rfl ⟨_, C, _, _, rfl, e1, e0, N.cls, N.a2, (show (1 : Nat) < 1000 by decide), ?_⟩)))
  rw [es]
  refine XV.cons (XV.setattr (EV.cstr (l := [10, 9, 13, 32]) (EV.var rfl ⟨_, C, _, _, rfl, e1, e0, N.cls, N.a3, (show (2 : Nat) < 1000 by decide), ?_⟩)))
  rw [es]
  refine XV.cons (XV.setattr (EV.list (EVs.nil ⟨by decide, EV.var rfl ⟨_, C, _, _, rfl, app_get e1, app_get e0, N.cls, N.a4, (show (3 : Nat) < 1000 by decide), ?_⟩⟩)))
  refine XV.nil ⟨rfl, rfl, ?_⟩
  rw [List.append_assoc, List.cons_append, es]
  show _ = hp ++ [_, _, _]
  rw [show (hp ++ [O.ns _, O.inst C hp.length]).length = hp.length + 2 by simp]
  rfl

noncomputable def tbump (a : Nat × Int) : Nat × Int := (a.1, a.2 + 1)
end
end Mine
namespace Mine
open PySem PySem.W PyProof.Rows PySem.SeqAt

section
variable {c : Cx} {C aI aR aG : Addr}

noncomputable def giveS : Stmt := nthS (fBody (stmt 8)) 1
noncomputable def giveQ : Str := "_law_stream.<locals>._law_give"
noncomputable def giveF : FnLit := ⟨fName giveS, giveQ, fArgs giveS, fBody giveS, fScope giveS⟩
noncomputable def piece (T : List Nat) (p : Nat) : List Nat := (T.drop p).take 1
theorem cut_piece {T : List Nat} {p : Nat} : cut T (some p) (some (p + 1)) = piece T p := by
  show (T.drop (min p T.length)).take (min (p + 1) T.length - min p T.length) = (T.drop p).take 1
  rcases Nat.lt_or_ge p T.length with h1 | h1
  · rw [Nat.min_eq_left (Nat.le_of_lt h1), Nat.min_eq_left h1]; congr 1; omega
  · rw [Nat.min_eq_right h1, Nat.min_eq_right (by omega), List.drop_eq_nil_of_le h1, Nat.sub_self]; rfl
theorem give {hp : List O} {q ti ai l p : Nat} {cl : List (Str × Nat)} {T : List Nat} (h1 : hp[q]? = some (.fn giveF cl)) (h2 : cl.lookup ("text" : Str) = some ti) (h3 : cl.lookup ("at" : Str) = some ai) (h4 : hp[ti]? = some (.cell (some (.str T))))
    (h5 : hp[ai]? = some (.cell (some (.ref l)))) (h6 : hp[l]? = some (.list [.int p])) (hT : T.length < 100000) (gLen : nsIn c.K mainGlobals "len" = some none) :
    FV c 1 (.ref q) [.int 1] hp (fun v hp' => v = .str (piece T p) ∧ hp' = hp.set l (.list [.int ((p + (piece T p).length : Nat) : Int)])) := by
  refine FV.clo h1 (ns := ["size"]) (fun _ _ _ _ _ xs h => by obtain ⟨_, rfl⟩ := len1 h; rfl) rfl (by decide) (by decide +kernel) (by decide +kernel) fun L a cd cells ρ₀ hρ => ?_
  refine XV.cons (XV.assign (EV.slice (l := T) ?_))
  refine EV.free h2 h4 ⟨rfl, by omega, ?_⟩
  refine EV.sub (EV.free h3 h5 (EV.cint (OV2.item h6 (by decide) rfl (by simp) ⟨p, rfl, ?_⟩)))
  refine EV.binop (EV.sub (EV.free h3 h5 (EV.cint (OV2.item h6 (by decide) rfl (by simp) (EV.var rfl (OV2.add_int ⟨p + 1, rfl, ?_⟩))))))
  show XV _ _ _ _ _ _
  rw [cut_piece]
  have hlen : (piece T p).length ≤ 1 := by unfold piece; simp; omega
  refine XV.cons (XV.augsubO (EV.free h3 h5 (EV.cint (OV2.get h6 (by decide) rfl (by simp) ?_))))
  refine EV.callB gLen Boot.«len» (by decide) (EVs.cons (EV.var rfl (EVs.nil (OVs.len_str (by omega) (OV2.iadd_int (SetI.list h6 (by decide) (by simp) (by simp) ?_))))))
  exact XV.cons (XV.ret (EV.var rfl ⟨rfl, rfl⟩))

noncomputable def fPos : Stmt → Pos
  | .FunctionDef _ _ _ _ _ _ _ _ _ p => p
  | _ => ⟨0, 0, 0, 0⟩
noncomputable def giveP : Pos := fPos giveS
structure StrK (K : Frag) (aS cc : Addr) : Prop where
  gS : nsIn K mainGlobals "_law_stream" = some (some (.ref aS))
  kS : keepIn K (.ref aS) = true
  fS : FnKc K aS "_law_stream" (stmt 8) (.ref cc)
noncomputable def giveCl (n : Nat) : List (Str × Nat) := [("text", n), ("at", n + 1)]
theorem stream {hp : List O} {aS cc P : Addr} {t : Nat} {pi pi' : List (Pos × Str)} {u v : V} (N : NetK c.K C aI aR aG) (S : StrK c.K aS cc) (hC : CodeHd c.H₀ cc P) (ho : hp[t]? = some (.tab P t pi)) (hpi : TabStep giveP giveQ pi pi') :
    FV c 5 (.top aS) [u, v] hp (fun w hp' => w = .ref (hp.length + 3) ∧ ∃ cl', cl' = giveCl hp.length ∧ hp' = hp.set t (.tab P t pi') ++
      [.cell (some u), .cell (some v), .ns (put "read" (.ref (hp.length + 5)) (kv0 1 .none (hp.length + 4))), .inst C (hp.length + 2), .list [], .fn giveF cl']) := by
  refine FV.fnC S.fS (ns := ["text", "at"]) (cs := ["text", "at"]) (fun _ _ _ _ xs h => by obtain ⟨_, _, rfl⟩ := len2 h; rfl) rfl (by decide) (by decide +kernel) (by decide) (by decide +kernel) (by decide +kernel) fun L cells ρ₀ hρ => ?_
  have ht := (List.getElem?_eq_some_iff.mp ho).1
  refine XV.st2 (loc' := []) (hp' := hp ++ [.cell (some u), .cell (some v)]) rfl rfl ?_
  have l2 : (hp ++ [O.cell (some u), O.cell (some v)]).length = hp.length + 2 := by simp
  refine XV.cons (XV.assign (EV.call 3 N.gC N.kC (EVs.cons (EV.cnone (EVs.nil (new_ N |>.mono ?_))))))
  rintro _ _ ⟨rfl, rfl⟩
  refine XV.st2 (loc' := [("stream", .ref (hp.length + 3))]) (hp' := hp ++ [.cell (some u), .cell (some v), .ns (kv0 1 .none (hp.length + 4)), .inst C (hp.length + 2), .list []]) (by dsimp only; rw [l2]; rfl) (by dsimp only; rw [l2]; simp) ?_
  refine XV.cons (XV.def_ (P := P) (i := t) (pi := pi) (pi' := pi') (qual := giveQ) (cl' := giveCl hp.length) rfl hC (app_get ho) hpi (by rfl) ?_)
  refine XV.st2 (loc' := [("stream", .ref (hp.length + 3)), ("_law_give", .ref (hp.length + 5))]) (hp' := hp.set t (.tab P t pi') ++ [.cell (some u), .cell (some v), .ns (kv0 1 .none (hp.length + 4)), .inst C (hp.length + 2), .list [], .fn giveF (giveCl hp.length)])
    (by dsimp only; rw [List.length_append]; rfl) (by dsimp only; rw [List.set_append_left _ _ ht, List.append_assoc]; rfl) ?_
  have g1 : ∀ (n : Nat) (l : List O) (x : O), l[n]? = some x → (hp.set t (.tab P t pi') ++ l)[hp.length + n]? = some x := fun n l x e => by
    rw [List.getElem?_append_right (by simp), List.length_set, Nat.add_sub_cancel_left]; exact e
  refine XV.cons (XV.setattr (EV.var rfl (EV.var rfl ⟨_, C, _, _, rfl, g1 3 _ _ rfl, g1 2 _ _ rfl, N.cls, N.a5, (show (4 : Nat) < 1000 by decide), ?_⟩)))
  refine XV.cons (XV.ret (EV.var rfl ⟨rfl, _, rfl, ?_⟩))
  dsimp only
  rw [List.set_append_right _ _ (by simp), List.length_set, Nat.add_sub_cancel_left]
  rfl
end
end Mine
namespace Mine
noncomputable def quo : List Nat → List Nat → List Nat × List Nat
  | [], tok => (tok, [])
  | [c], tok => if c = 34 then (tok, []) else if c = 92 then (tok, []) else (tok ++ [c], [])
  | c :: e :: r, tok => if c = 34 then (tok, e :: r) else if c = 92 then quo r (tok ++ [e]) else quo (e :: r) (tok ++ [c])
noncomputable def pla (ws : List Nat) : List Nat → List Nat → List Nat × List Nat
  | [], tok => (tok, [])
  | [c], tok => if c ∈ ws then (tok, []) else if c = 92 then (tok, []) else (tok ++ [c], [])
  | c :: e :: r, tok => if c ∈ ws then (tok, e :: r) else if c = 92 then pla ws r (tok ++ [e]) else pla ws (e :: r) (tok ++ [c])
noncomputable def get (ws : List Nat) : List Nat → List Nat × List Nat
  | [] => ([], [])
  | c :: r => if c ∈ ws then get ws r else if c = 34 then quo r [] else if c = 92 then (match r with | [] => ([], []) | e :: r' => pla ws r' [e]) else pla ws r [c]

end Mine
namespace Mine
open PySem PySem.W PyProof.Rows PySem.SeqAt

noncomputable def tat (n0 : Int) (T : List Nat) (p : Nat) : Nat × Int := (p, n0 + ((T.take p).count 10 : Nat))
noncomputable def tsrd (T : List Nat) (a : Nat × Int) : List Nat × (Nat × Int) := (piece T a.1, (a.1 + (piece T a.1).length, a.2))
noncomputable abbrev trd (T : List Nat) : Nat × Int → List Nat × (Nat × Int) := rdOf (tsrd T) tbump
theorem take_succ_of {T : List Nat} {p c : Nat} {r : List Nat} (h : T.drop p = c :: r) : T.take (p + 1) = T.take p ++ [c] := by
  rw [List.take_add, h]; rfl
theorem drop_succ_of {T : List Nat} {p c : Nat} {r : List Nat} (h : T.drop p = c :: r) : T.drop (p + 1) = r := by
  rw [← List.drop_drop, h]; rfl
noncomputable def rdN (T : List Nat) (p : Nat) : List Nat × Nat := (piece T p, p + (piece T p).length)
theorem rdN_cons {T : List Nat} {p c : Nat} {r : List Nat} (h : T.drop p = c :: r) : rdN T p = ([c], p + 1) := by
  have hp : piece T p = [c] := by unfold piece; rw [h]; rfl
  unfold rdN; rw [hp]; rfl
theorem rdN_nil {T : List Nat} {p : Nat} (h : T.drop p = []) : rdN T p = ([], p) := by
  have hp : piece T p = [] := by unfold piece; rw [h]; rfl
  unfold rdN; rw [hp]; rfl
theorem trd_at (T : List Nat) (p : Nat) : trd T (tat 1 T p) = ((rdN T p).1, tat 1 T (rdN T p).2) := by
  cases h : T.drop p with
  | nil => rw [rdN_nil h]; have hp : piece T p = [] := by unfold piece; rw [h]; rfl
           unfold trd rdOf tsrd tat; simp [hp]
  | cons c r =>
    rw [rdN_cons h]
    have hp : piece T p = [c] := by unfold piece; rw [h]; rfl
    unfold trd rdOf tsrd tat
    simp only [hp]
    rw [take_succ_of h]
    by_cases hc : c = 10
    · subst hc; simp [tbump]; omega
    · have : [c] ≠ [10] := fun e => hc (by injection e)
      rw [if_neg this]; simp [List.count_append, hc]
theorem drop_len {T : List Nat} {p : Nat} {l : List Nat} (h : T.drop p = l) (hp : p ≤ T.length) : p + l.length = T.length := by rw [← h, List.length_drop]; omega

theorem qs_of (T : List Nat) : ∀ (l : List Nat) (p : Nat) (tok : List Nat), T.drop p = l → p ≤ T.length → tok.length + l.length < 100000 → ∃ m, QS (rdN T) m (p) tok ((quo l tok).1, (T.length - (quo l tok).2.length))
  | [], p, tok, h, hp, hl => by
    have := drop_len h hp
    have e : p = T.length := by simpa using this
    refine ⟨0, ?_⟩
    have z := QS.eof (rd := rdN T) (n := 0) (a := p) (tok := tok) (by rw [rdN_nil h])
    rw [rdN_nil h] at z
    rw [show (quo [] tok) = (tok, []) from rfl]; simp; rw [← e]; exact z
  | [c], p, tok, h, hp, hl => by
    have hh := drop_len h hp
    have h' := drop_succ_of h
    simp at hh hl
    have rc := rdN_cons h
    have rn := rdN_nil h'
    unfold quo
    by_cases h1 : c = 34
    · subst h1
      refine ⟨0, ?_⟩
      have z := QS.fin (rd := rdN T) (n := 0) (a := p) (tok := tok) (by rw [rc])
      rw [rc] at z
      simp; rw [← hh]; exact z
    · by_cases h2 : c = 92
      · subst h2
        refine ⟨1, ?_⟩
        have z := QS.esc (rd := rdN T) (n := 0) (a := p) (tok := tok) (R := (tok, (p + 1))) (by rw [rc]) (by omega) (by
          rw [rc, rn, List.append_nil]
          have := QS.eof (rd := rdN T) (n := 0) (a := (p + 1)) (tok := tok) (by rw [rn])
          rw [rn] at this; exact this)
        simp; rw [← hh]; exact z
      · refine ⟨1, ?_⟩
        have z := QS.sign (rd := rdN T) (n := 0) (a := p) (tok := tok) (R := (tok ++ [c], (p + 1))) (by rw [rc]) h1 h2 (by omega) (by
          rw [rc]
          have := QS.eof (rd := rdN T) (n := 0) (a := (p + 1)) (tok := tok ++ [c]) (by rw [rn])
          rw [rn] at this; exact this)
        simp [h1, h2]; rw [← hh]; exact z
  | c :: e :: r, p, tok, h, hp, hl => by
    have hh := drop_len h hp
    have h' := drop_succ_of h
    have h'' := drop_succ_of h'
    simp at hh hl
    have rc := rdN_cons h
    have re := rdN_cons h'
    unfold quo
    by_cases h1 : c = 34
    · subst h1
      refine ⟨0, ?_⟩
      have z := QS.fin (rd := rdN T) (n := 0) (a := p) (tok := tok) (by rw [rc])
      rw [rc] at z
      simp; rw [show T.length - (r.length + 1) = p + 1 by omega]; exact z
    · by_cases h2 : c = 92
      · subst h2
        obtain ⟨m, ih⟩ := qs_of T r (p + 1 + 1) (tok ++ [e]) h'' (by omega) (by simp; omega)
        exact ⟨m + 1, by simpa using QS.esc (rd := rdN T) (by rw [rc]) (by omega) (by rw [rc, re]; exact ih)⟩
      · obtain ⟨m, ih⟩ := qs_of T (e :: r) (p + 1) (tok ++ [c]) h' (by omega) (by simp; omega)
        refine ⟨m + 1, ?_⟩
        rw [if_neg h1, if_neg h2]
        exact QS.sign (rd := rdN T) (by rw [rc]) h1 h2 (by omega) (by rw [rc]; exact ih)
theorem ps_of (ws : List Nat) (T : List Nat) : ∀ (l : List Nat) (p : Nat) (tok : List Nat), T.drop p = l → p ≤ T.length → tok.length + l.length < 100000 → ∃ m, PS (rdN T) ws m (p) tok ((pla ws l tok).1, (T.length - (pla ws l tok).2.length))
  | [], p, tok, h, hp, hl => by
    have := drop_len h hp
    have e : p = T.length := by simpa using this
    refine ⟨0, ?_⟩
    have z := PS.eof (rd := rdN T) (ws := ws) (n := 0) (a := p) (tok := tok) (by rw [rdN_nil h])
    rw [rdN_nil h] at z
    rw [show (pla ws [] tok) = (tok, []) from rfl]; simp; rw [← e]; exact z
  | [c], p, tok, h, hp, hl => by
    have hh := drop_len h hp
    have h' := drop_succ_of h
    simp at hh hl
    have rc := rdN_cons h
    have rn := rdN_nil h'
    unfold pla
    by_cases h1 : c ∈ ws
    · refine ⟨0, ?_⟩
      have z := PS.fin (rd := rdN T) (ws := ws) (n := 0) (a := p) (tok := tok) (ch := c) (by rw [rc]) h1
      rw [rc] at z
      simp [h1]; rw [← hh]; exact z
    · by_cases h2 : c = 92
      · subst h2
        refine ⟨1, ?_⟩
        have z := PS.esc (rd := rdN T) (ws := ws) (n := 0) (a := p) (tok := tok) (R := (tok, (p + 1))) (by rw [rc]) h1 (by omega) (by
          rw [rc, rn, List.append_nil]
          have := PS.eof (rd := rdN T) (ws := ws) (n := 0) (a := (p + 1)) (tok := tok) (by rw [rn])
          rw [rn] at this; exact this)
        simp [h1]; rw [← hh]; exact z
      · refine ⟨1, ?_⟩
        have z := PS.sign (rd := rdN T) (ws := ws) (n := 0) (a := p) (tok := tok) (R := (tok ++ [c], (p + 1))) (by rw [rc]) h1 h2 (by omega) (by
          rw [rc]
          have := PS.eof (rd := rdN T) (ws := ws) (n := 0) (a := (p + 1)) (tok := tok ++ [c]) (by rw [rn])
          rw [rn] at this; exact this)
        simp [h1, h2]; rw [← hh]; exact z
  | c :: e :: r, p, tok, h, hp, hl => by
    have hh := drop_len h hp
    have h' := drop_succ_of h
    have h'' := drop_succ_of h'
    simp at hh hl
    have rc := rdN_cons h
    have re := rdN_cons h'
    unfold pla
    by_cases h1 : c ∈ ws
    · refine ⟨0, ?_⟩
      have z := PS.fin (rd := rdN T) (ws := ws) (n := 0) (a := p) (tok := tok) (ch := c) (by rw [rc]) h1
      rw [rc] at z
      simp [h1]; rw [show T.length - (r.length + 1) = p + 1 by omega]; exact z
    · by_cases h2 : c = 92
      · subst h2
        obtain ⟨m, ih⟩ := ps_of ws T r (p + 1 + 1) (tok ++ [e]) h'' (by omega) (by simp; omega)
        exact ⟨m + 1, by simpa [h1] using PS.esc (rd := rdN T) (by rw [rc]) h1 (by omega) (by rw [rc, re]; exact ih)⟩
      · obtain ⟨m, ih⟩ := ps_of ws T (e :: r) (p + 1) (tok ++ [c]) h' (by omega) (by simp; omega)
        refine ⟨m + 1, ?_⟩
        rw [if_neg h1, if_neg h2]
        exact PS.sign (rd := rdN T) (by rw [rc]) h1 h2 (by omega) (by rw [rc]; exact ih)
theorem gs_of (ws : List Nat) (T : List Nat) (hT : T.length < 90000) : ∀ (l : List Nat) (p : Nat), T.drop p = l → p ≤ T.length → ∃ m, GS (rdN T) ws m (p) ((get ws l).1, (T.length - (get ws l).2.length))
  | [], p, h, hp => by
    have := drop_len h hp
    have e : p = T.length := by simpa using this
    refine ⟨0, ?_⟩
    have z := GS.eof (rd := rdN T) (ws := ws) (n := 0) (a := p) (by rw [rdN_nil h])
    rw [rdN_nil h] at z
    rw [show (get ws []) = ([], []) from rfl]; simp; rw [← e]; exact z
  | c :: r, p, h, hp => by
    have hh := drop_len h hp
    have h' := drop_succ_of h
    simp at hh
    have rc := rdN_cons h
    unfold get
    by_cases h1 : c ∈ ws
    · obtain ⟨m, ih⟩ := gs_of ws T hT r (p + 1) h' (by omega)
      exact ⟨m + 1, by simpa [h1] using GS.skip (rd := rdN T) (by rw [rc]) h1 (by rw [rc]; exact ih)⟩
    · rw [if_neg h1]
      by_cases h2 : c = 34
      · subst h2
        obtain ⟨m, ih⟩ := qs_of T r (p + 1) [] h' (by omega) (by simp; omega)
        exact ⟨0, by simpa using GS.quote (rd := rdN T) (n := 0) (by rw [rc]) h1 (by rw [rc]; exact ih)⟩
      · rw [if_neg h2]
        by_cases h3 : c = 92
        · subst h3
          cases r with
          | nil =>
            have rn := rdN_nil h'
            obtain ⟨m, ih⟩ := ps_of ws T [] (p + 1) [] h' (by omega) (by simp)
            refine ⟨0, ?_⟩
            have z := GS.esc (rd := rdN T) (ws := ws) (n := 0) (a := p) (by rw [rc]) h1 (by rw [rc, rn]; exact ih)
            simpa [pla] using z
          | cons e r' =>
            have re := rdN_cons h'
            obtain ⟨m, ih⟩ := ps_of ws T r' (p + 1 + 1) [e] (drop_succ_of h') (by simp at hh; omega) (by simp at hh ⊢; omega)
            exact ⟨0, by simpa using GS.esc (rd := rdN T) (n := 0) (by rw [rc]) h1 (by rw [rc, re]; exact ih)⟩
        · rw [if_neg h3]
          obtain ⟨m, ih⟩ := ps_of ws T r (p + 1) [c] h' (by omega) (by simp; omega)
          exact ⟨0, GS.sign (rd := rdN T) (n := 0) (by rw [rc]) h1 h2 h3 (by rw [rc]; exact ih)⟩
end Mine
namespace Mine
open PySem PySem.W PyProof.Rows PySem.SeqAt
section
variable {c : Cx} {C aI aR aG : Addr}
noncomputable def kvW (ws : List Nat) (l : Int) (v : V) (p : Nat) : List (Str × V) := [("lineno", .int l), ("instream", v), ("whitespace", .str ws), ("pushback", .ref p)]
noncomputable def blk (b : Nat) (C : Addr) (T ws : List Nat) (a : Nat × Int) : List O :=
  [.list [.int a.1], .cell (some (.str T)), .cell (some (.ref b)), .ns (put "read" (.ref (b + 6)) (kv0 1 .none (b + 5))), .inst C (b + 3), .list [], .fn giveF (giveCl (b + 1)), .ns (kvW ws a.2 (.ref (b + 4)) (b + 9)), .inst C (b + 7), .list []]
theorem blk_get {H : List O} {n : Nat} {l : List O} {x : O} (e : l[n]? = some x) : (H ++ l)[H.length + n]? = some x := by
  rw [List.getElem?_append_right (by omega), Nat.add_sub_cancel_left]; exact e
theorem blk_get0 {H : List O} {l : List O} {x : O} (e : l[0]? = some x) : (H ++ l)[H.length]? = some x := blk_get (n := 0) e
theorem blk_set {H : List O} {n : Nat} {l : List O} {x : O} : (H ++ l).set (H.length + n) x = H ++ l.set n x := by
  rw [List.set_append_right _ _ (by omega), Nat.add_sub_cancel_left]
theorem strmT {H : List O} {T ws : List Nat} (N : NetK c.K C aI aR aG) (hT : T.length < 100000) (gLen : nsIn c.K mainGlobals "len" = some none) :
    Strm c C (Nat × Int) 1 (H.length + 8) (H.length + 7) (fun a => H ++ blk H.length C T ws a) (tsrd T) (fun a => kvW ws a.2 (.ref (H.length + 4)) (H.length + 9)) (fun a => a.2) tbump where
  inst := fun a => blk_get rfl
  ns := fun a => blk_get rfl
  len := fun a => (show (4 : Nat) < 1000 by decide)
  lineno := fun a => rfl
  bumped := fun a => by rw [blk_set]; rfl
  read := fun a => ⟨H.length + 4, H.length + 3, _, H.length + 6, _, _, rfl, blk_get rfl, blk_get rfl, rfl, blk_get rfl, fun ext => by
    have h := give (c := c) (hp := H ++ blk H.length C T ws a ++ ext) (q := H.length + 6) (ti := H.length + 1) (ai := H.length + 2) (l := H.length) (p := a.1) (T := T) (app_get (blk_get rfl)) (by rfl) (by rfl) (app_get (blk_get rfl)) (app_get (blk_get rfl)) (app_get (blk_get0 rfl)) hT gLen
    refine h.mono ?_
    rintro _ _ ⟨rfl, rfl⟩
    refine ⟨rfl, [], ?_⟩
    rw [List.append_nil, app_set (blk_get0 rfl)]
    exact congrArg (· ++ ext) (blk_set (n := 0))⟩
end
end Mine
namespace Mine
theorem quo_fin (r tok : List Nat) : quo (34 :: r) tok = (tok, r) := by cases r <;> simp [quo]
theorem quo_esc (e : Nat) (r tok : List Nat) : quo (92 :: e :: r) tok = quo r (tok ++ [e]) := by simp [quo]
theorem quo_sign {c : Nat} (h1 : c ≠ 34) (h2 : c ≠ 92) (l tok : List Nat) : quo (c :: l) tok = quo l (tok ++ [c]) := by cases l <;> simp [quo, h1, h2]
theorem pla_fin {ws : List Nat} {c : Nat} (h : c ∈ ws) (r tok : List Nat) : pla ws (c :: r) tok = (tok, r) := by cases r <;> simp [pla, h]
theorem pla_esc {ws : List Nat} (h : 92 ∉ ws) (e : Nat) (r tok : List Nat) : pla ws (92 :: e :: r) tok = pla ws r (tok ++ [e]) := by simp [pla, h]
theorem pla_sign {ws : List Nat} {c : Nat} (h1 : c ∉ ws) (h2 : c ≠ 92) (l tok : List Nat) : pla ws (c :: l) tok = pla ws l (tok ++ [c]) := by cases l <;> simp [pla, h1, h2]
theorem get_quote {ws : List Nat} (h : 34 ∉ ws) (r : List Nat) : get ws (34 :: r) = quo r [] := by unfold get; simp [h]
theorem get_esc {ws : List Nat} (h : 92 ∉ ws) (e : Nat) (r : List Nat) : get ws (92 :: e :: r) = pla ws r [e] := by unfold get; simp [h]
theorem get_sign {ws : List Nat} {c : Nat} (h0 : c ∉ ws) (h1 : c ≠ 34) (h2 : c ≠ 92) (r : List Nat) : get ws (c :: r) = pla ws r [c] := by unfold get; simp [h0, h1, h2]
noncomputable def ws4 : List Nat := [10, 9, 13, 32]
end Mine
namespace Mine
open PySem PySem.W PyProof.Rows
noncomputable def sub1 (c : Nat) (z l : List Nat) : List Nat := l.flatMap fun k => if k = c then z else [k]
theorem sub1_append (c : Nat) (z a b : List Nat) : sub1 c z (a ++ b) = sub1 c z a ++ sub1 c z b := List.flatMap_append ..
theorem sub1_free {c : Nat} {z : List Nat} : ∀ {l : List Nat}, c ∉ l → sub1 c z l = l
  | [], _ => rfl
  | k :: l, h => by
    have h1 : k ≠ c := fun e => h (e ▸ .head _)
    have h2 := sub1_free (z := z) (l := l) fun m => h (.tail _ m)
    show (if k = c then z else [k]) ++ sub1 c z l = _
    rw [if_neg h1, h2]; rfl
theorem join_sub (c : Nat) (z : Str) : ∀ (ps : List Str), (∀ p ∈ ps, c ∉ p.cps.toList) → (Str.join z ps).cps.toList = sub1 c z.cps.toList (Str.join ⟨#[c]⟩ ps).cps.toList
  | [], _ => rfl
  | [p], h => (sub1_free (h p (.head _))).symm
  | p :: q :: r, h => by
    have ih := join_sub c z (q :: r) fun x hx => h x (.tail _ hx)
    show (p.cps ++ z.cps ++ (Str.join z (q :: r)).cps).toList = sub1 c z.cps.toList (p.cps ++ #[c] ++ (Str.join ⟨#[c]⟩ (q :: r)).cps).toList
    rw [Array.toList_append, Array.toList_append, Array.toList_append, Array.toList_append, sub1_append, sub1_append, ← ih, sub1_free (h p (.head _))]
    congr 2
    simp [sub1]
theorem replace_sub (x : Str) (c : Nat) (z : Str) : (Txt.replace x ⟨#[c]⟩ z).cps.toList = sub1 c z.cps.toList x.cps.toList := by
  rw [StrLaws.replace_one, join_sub c z _ (StrLaws.split_free x c), StrLaws.join_split]
noncomputable def q2 (c : Nat) : List Nat := if c = 92 then [92, 92] else if c = 34 then [92, 34] else [c]
noncomputable def spec6 : List Nat := [34, 92, 32, 9, 13, 10]
noncomputable def p2 (c : Nat) : List Nat := if c ∈ spec6 then [92, c] else [c]
theorem sub_q2 : ∀ (w : List Nat), sub1 34 [92, 34] (sub1 92 [92, 92] w) = w.flatMap q2
  | [] => rfl
  | c :: w => by
    have ih := sub_q2 w
    rw [List.flatMap_cons, ← ih]
    show sub1 34 [92, 34] ((if c = 92 then [92, 92] else [c]) ++ sub1 92 [92, 92] w) = _
    rw [sub1_append]
    congr 1
    unfold q2
    by_cases h : c = 92
    · rw [if_pos h, if_pos h]; rfl
    · rw [if_neg h, if_neg h]
      show (if c = 34 then [92, 34] else [c]) ++ [] = _
      rw [List.append_nil]
theorem quo_q2 (r : List Nat) : ∀ (w tok : List Nat), quo (w.flatMap q2 ++ 34 :: r) tok = (tok ++ w, r)
  | [], tok => by rw [List.flatMap_nil, List.nil_append, quo_fin]; simp
  | c :: w, tok => by
    rw [List.flatMap_cons, List.append_assoc]
    have ih := quo_q2 r w (tok ++ [c])
    unfold q2
    by_cases h : c = 92
    · subst h
      rw [if_pos rfl, List.cons_append, List.cons_append, quo_esc]
      show quo (w.flatMap q2 ++ 34 :: r) (tok ++ [92]) = _
      rw [ih]; simp
    · rw [if_neg h]
      by_cases h2 : c = 34
      · subst h2
        rw [if_pos rfl, List.cons_append, List.cons_append, quo_esc]
        show quo (w.flatMap q2 ++ 34 :: r) (tok ++ [34]) = _
        rw [ih]; simp
      · rw [if_neg h2, List.cons_append, quo_sign h2 h]
        show quo (w.flatMap q2 ++ 34 :: r) (tok ++ [c]) = _
        rw [ih]; simp
theorem not_spec {c : Nat} (h : c ∉ spec6) : c ∉ ws4 ∧ c ≠ 34 ∧ c ≠ 92 := by
  simp [spec6] at h
  simp [ws4]
  omega
theorem pla_p2 {e : Nat} (he : e ∈ ws4) (r : List Nat) : ∀ (w tok : List Nat), pla ws4 (w.flatMap p2 ++ e :: r) tok = (tok ++ w, r)
  | [], tok => by rw [List.flatMap_nil, List.nil_append, pla_fin he]; simp
  | c :: w, tok => by
    rw [List.flatMap_cons, List.append_assoc]
    have ih := pla_p2 he r w (tok ++ [c])
    unfold p2
    by_cases h : c ∈ spec6
    · rw [if_pos h, List.cons_append, List.cons_append, pla_esc (by decide)]
      show pla ws4 (w.flatMap p2 ++ e :: r) (tok ++ [c]) = _
      rw [ih]; simp
    · obtain ⟨h1, h2, h3⟩ := not_spec h
      rw [if_neg h, List.cons_append, pla_sign h1 h3]
      show pla ws4 (w.flatMap p2 ++ e :: r) (tok ++ [c]) = _
      rw [ih]; simp
noncomputable def enc (f : Nat) (w : List Nat) : List Nat := if f % 2 = 1 ∨ w = [] then 34 :: (w.flatMap q2 ++ [34]) else w.flatMap p2 ++ [if f % 4 = 0 then 10 else 32]
theorem get_enc (f : Nat) (w r : List Nat) : get ws4 (enc f w ++ r) = (w, r) := by
  unfold enc
  split
  · rw [List.cons_append, get_quote (by decide), List.append_assoc]
    exact quo_q2 r w []
  · rename_i h
    have hw : w ≠ [] := fun e => h (.inr e)
    have he : (if f % 4 = 0 then 10 else 32) ∈ ws4 := by split <;> decide
    generalize (if f % 4 = 0 then 10 else 32) = e at he ⊢
    cases w with
    | nil => exact absurd rfl hw
    | cons c w =>
      rw [List.append_assoc, List.flatMap_cons, List.append_assoc]
      unfold p2
      by_cases h1 : c ∈ spec6
      · rw [if_pos h1, List.cons_append, List.cons_append, get_esc (by decide)]
        exact pla_p2 he r w [c]
      · obtain ⟨h2, h3, h4⟩ := not_spec h1
        rw [if_neg h1, List.cons_append, get_sign h2 h3 h4]
        exact pla_p2 he r w [c]
theorem flat_le2 (g : Nat → List Nat) (hg : ∀ c, (g c).length ≤ 2) : ∀ (w : List Nat), (w.flatMap g).length ≤ 2 * w.length
  | [] => by simp
  | c :: w => by
    have := flat_le2 g hg w
    have := hg c
    rw [List.flatMap_cons, List.length_append, List.length_cons]; omega
theorem q2_len (c : Nat) : (q2 c).length ≤ 2 := by unfold q2; split <;> (try split) <;> simp
theorem p2_len (c : Nat) : (p2 c).length ≤ 2 := by unfold p2; split <;> simp
theorem enc_len (f : Nat) (w : List Nat) : (enc f w).length ≤ 2 * w.length + 2 := by
  unfold enc
  have := flat_le2 q2 q2_len w
  have := flat_le2 p2 p2_len w
  split <;> simp only [List.length_cons, List.length_append, List.length_nil] <;> omega
structure Enc (ws es : List (List Nat)) : Prop where
  len : ws.length = es.length
  get : ∀ (k : Nat) (w e : List Nat), ws[k]? = some w → es[k]? = some e → (∀ r, Mine.get ws4 (e ++ r) = (w, r)) ∧ e.length ≤ 2 * w.length + 2 ∧ e ≠ []
theorem enc_ne (f : Nat) (w : List Nat) : enc f w ≠ [] := by unfold enc; split <;> simp
theorem Enc.nil : Enc [] [] := ⟨rfl, fun k w e h => by simp at h⟩
theorem Enc.snoc {ws es : List (List Nat)} (E : Enc ws es) (f : Nat) (w : List Nat) : Enc (ws ++ [w]) (es ++ [enc f w]) := by
  refine ⟨by simp [E.len], fun k u e h1 h2 => ?_⟩
  have hl := E.len
  rcases Nat.lt_or_ge k ws.length with h | h
  · rw [List.getElem?_append_left h] at h1
    rw [List.getElem?_append_left (by omega)] at h2
    exact E.get k u e h1 h2
  · rw [List.getElem?_append_right h] at h1
    rw [List.getElem?_append_right (by omega)] at h2
    have hk : k - ws.length = 0 := by
      have := (List.getElem?_eq_some_iff.mp h1).1
      simp at this; omega
    rw [hk] at h1
    rw [show k - es.length = 0 by omega] at h2
    simp at h1 h2
    subst h1 h2
    exact ⟨get_enc f w, enc_len f w, enc_ne f w⟩
noncomputable def endAt (es : List (List Nat)) (k : Nat) : Nat := (es.take k).flatten.length
theorem endAt_succ {es : List (List Nat)} {k : Nat} {e : List Nat} (h : es[k]? = some e) : endAt es (k + 1) = endAt es k + e.length := by
  unfold endAt
  rw [List.take_add_one, h]; simp
theorem drop_end (es : List (List Nat)) (k : Nat) : es.flatten.drop (endAt es k) = (es.drop k).flatten := by
  unfold endAt
  conv => lhs; rw [← List.take_append_drop k es, List.flatten_append]
  have : (List.take k (List.take k es ++ List.drop k es)) = es.take k := by rw [List.take_append_drop]
  rw [this, List.drop_left]
theorem endAt_all (es : List (List Nat)) {k : Nat} (h : es.length ≤ k) : endAt es k = es.flatten.length := by unfold endAt; rw [List.take_of_length_le h]
theorem endAt_le (es : List (List Nat)) (k : Nat) : endAt es k ≤ es.flatten.length := by
  unfold endAt
  conv => rhs; rw [← List.take_append_drop k es, List.flatten_append, List.length_append]
  omega
theorem Enc.read {ws es : List (List Nat)} (E : Enc ws es) {k : Nat} {w : List Nat} (h : ws[k]? = some w) : Mine.get ws4 (es.flatten.drop (endAt es k)) = (w, es.flatten.drop (endAt es (k + 1))) := by
  have hk := (List.getElem?_eq_some_iff.mp h).1
  have hk2 : k < es.length := by rw [← E.len]; exact hk
  rw [drop_end, drop_end, List.drop_eq_getElem_cons hk2, List.flatten_cons]
  exact (E.get k w _ h (List.getElem?_eq_getElem hk2)).1 _
theorem Enc.size {ws es : List (List Nat)} (E : Enc ws es) {b : Nat} (hb : ∀ w ∈ ws, w.length ≤ b) : es.flatten.length ≤ es.length * (2 * b + 2) := by
  have : ∀ k, k ≤ es.length → endAt es k ≤ k * (2 * b + 2) := by
    intro k
    induction k with
    | zero => intro _; simp [endAt]
    | succ k ih =>
      intro hk
      have hk1 : k < es.length := hk
      have hk2 : k < ws.length := by rw [E.len]; exact hk
      rw [endAt_succ (List.getElem?_eq_getElem hk1)]
      have h1 := (E.get k _ _ (List.getElem?_eq_getElem hk2) (List.getElem?_eq_getElem hk1)).2.1
      have h2 := hb _ (List.getElem_mem hk2)
      have h3 := ih (by omega)
      rw [Nat.add_mul]; omega
  have h := this es.length (Nat.le_refl _)
  rw [endAt_all es (Nat.le_refl _)] at h
  exact h
end Mine
namespace Mine
open PySem PySem.W PyProof.Rows
noncomputable def ivs (F : List Nat) : List V := F.map fun f => V.int (f : Nat)
theorem ivs_len (F : List Nat) : (ivs F).length = F.length := by simp [ivs]
theorem ivs_get {F : List Nat} {i f : Nat} (h : F[i]? = some f) : (ivs F)[i]? = some (.int (f : Nat)) := by unfold ivs; rw [List.getElem?_map, h]; rfl
theorem ivs_getD {F : List Nat} {i : Nat} (h : i < F.length) : (ivs F).getD i .none = .int (F[i] : Nat) := by
  rw [List.getD_eq_getElem?_getD]; unfold ivs; rw [List.getElem?_map, List.getElem?_eq_getElem h]; rfl
noncomputable def svs (W : List (List Nat)) : List V := W.map V.str
theorem svs_len (W : List (List Nat)) : (svs W).length = W.length := by simp [svs]
theorem svs_get {W : List (List Nat)} {i : Nat} {w : List Nat} (h : W[i]? = some w) : (svs W)[i]? = some (.str w) := by unfold svs; rw [List.getElem?_map, h]; rfl
theorem ga {hp : List O} {x : O} {g : List O} : (hp ++ x :: g)[hp.length]? = some x := by simp
theorem sa {hp : List O} {x y : O} {g : List O} : (hp ++ x :: g).set hp.length y = hp ++ y :: g := by rw [List.set_append_right _ _ (Nat.le_refl _)]; simp
theorem set_ne {α : Type} {l : List α} {i j : Nat} {x o : α} (h : i ≠ j) (e : l[i]? = some o) : (l.set j x)[i]? = some o := by rw [List.getElem?_set_ne (Ne.symm h)]; exact e
theorem set_at {α : Type} {l : List α} {i : Nat} {x o : α} (e : l[i]? = some o) : (l.set i x)[i]? = some x := List.getElem?_set_self (List.getElem?_eq_some_iff.mp e).1
theorem lt_of_get {α : Type} {l : List α} {i : Nat} {o : α} (e : l[i]? = some o) : i < l.length := (List.getElem?_eq_some_iff.mp e).1
theorem get_app {α : Type} {l r : List α} {i : Nat} {o : α} (e : l[i]? = some o) : (l ++ r)[i]? = some o := by rw [List.getElem?_append_left (lt_of_get e)]; exact e
noncomputable def endsV (es : List (List Nat)) : List V := (List.range es.length).map fun k => V.int (endAt es (k + 1) : Nat)
theorem endsV_len (es : List (List Nat)) : (endsV es).length = es.length := by simp [endsV]
theorem endsV_get {es : List (List Nat)} {k : Nat} (h : k < es.length) : (endsV es)[k]? = some (.int (endAt es (k + 1) : Nat)) := by unfold endsV; rw [List.getElem?_map, List.getElem?_range h]; rfl
theorem endsV_snoc (es : List (List Nat)) (e : List Nat) : endsV es ++ [.int ((es ++ [e]).flatten.length : Nat)] = endsV (es ++ [e]) := by
  unfold endsV
  rw [List.length_append, List.length_singleton, List.range_succ, List.map_append]
  congr 1
  · refine List.map_congr_left fun k hk => ?_
    have hk := List.mem_range.mp hk
    unfold endAt
    rw [List.take_append_of_le_length (by omega)]
  · show [_] = [V.int (endAt (es ++ [e]) (es.length + 1) : Nat)]
    rw [endAt_all _ (by simp)]
end Mine
namespace Mine
open PySem PySem.W PyProof.Rows
noncomputable def jOf : List (List Nat) → Nat → Nat
  | [], _ => 0
  | x :: r, p => if p = 0 then 0 else 1 + jOf r (p - x.length)
noncomputable def hOf : List (List Nat) → Nat → List Nat
  | [], _ => []
  | x :: r, p => if p = 0 then [] else if p ≤ x.length then x.drop p else hOf r (p - x.length)
theorem jOf_zero (ps : List (List Nat)) : jOf ps 0 = 0 := by cases ps <;> simp [jOf]
theorem hOf_zero (ps : List (List Nat)) : hOf ps 0 = [] := by cases ps <;> simp [hOf]
theorem jOf_le : ∀ (ps : List (List Nat)) (p : Nat), jOf ps p ≤ ps.length
  | [], _ => Nat.le_refl _
  | x :: r, p => by
    have := jOf_le r (p - x.length)
    unfold jOf; split <;> simp <;> omega
inductive RdStep (ps : List (List Nat)) (p : Nat) : Prop
  | more (h : hOf ps p ≠ []) (h1 : (ps.flatten.drop p).take 1 = (hOf ps p).take 1) (h2 : hOf ps (p + 1) = (hOf ps p).drop 1) (h3 : jOf ps (p + 1) = jOf ps p) (h4 : p < ps.flatten.length) : RdStep ps p
  | next (h : hOf ps p = []) (x : List Nat) (h0 : ps[jOf ps p]? = some x) (h1 : (ps.flatten.drop p).take 1 = x.take 1) (h2 : hOf ps (p + 1) = x.drop 1) (h3 : jOf ps (p + 1) = jOf ps p + 1) (h4 : p < ps.flatten.length) : RdStep ps p
  | fin (h : hOf ps p = []) (h0 : jOf ps p = ps.length) (h1 : ps.flatten.drop p = []) : RdStep ps p
theorem rdStep : ∀ (ps : List (List Nat)), (∀ x ∈ ps, x ≠ []) → ∀ p, RdStep ps p
  | [], _, p => .fin rfl rfl (by simp)
  | x :: r, hne, p => by
    have hx : x ≠ [] := hne x (.head _)
    have hxl : 0 < x.length := List.length_pos_iff.mpr hx
    rcases Nat.eq_zero_or_pos p with hp | hp
    · subst hp
      refine .next (hOf_zero _) x (by rw [jOf_zero]; rfl) ?_ ?_ ?_ (by simp; omega)
      · rw [List.drop_zero, List.flatten_cons]
        cases x with
        | nil => exact absurd rfl hx
        | cons a t => rfl
      · show (if 0 + 1 = 0 then [] else if 0 + 1 ≤ x.length then x.drop (0 + 1) else hOf r (0 + 1 - x.length)) = _
        rw [if_neg (by omega), if_pos (by omega)]
      · show (if 0 + 1 = 0 then 0 else 1 + jOf r (0 + 1 - x.length)) = _
        rw [if_neg (by omega), show 0 + 1 - x.length = 0 by omega, jOf_zero, jOf_zero]
    · have hp0 : p ≠ 0 := by omega
      have hp1 : p + 1 ≠ 0 := by omega
      rcases Nat.lt_or_ge p x.length with hl | hl
      · have e : hOf (x :: r) p = x.drop p := by unfold hOf; rw [if_neg hp0, if_pos (by omega)]
        have ed : x.drop p ≠ [] := by intro q; have := List.drop_eq_nil_iff.mp q; omega
        refine .more (by rw [e]; exact ed) ?_ ?_ ?_ (by rw [List.flatten_cons, List.length_append]; omega)
        · rw [e, List.flatten_cons, List.drop_append_of_le_length (by omega)]
          cases h : x.drop p with
          | nil => exact absurd h ed
          | cons a t => rfl
        · rw [e]
          show (if p + 1 = 0 then [] else if p + 1 ≤ x.length then x.drop (p + 1) else hOf r (p + 1 - x.length)) = _
          rw [if_neg hp1, if_pos (by omega), List.drop_drop]
        · show (if p + 1 = 0 then 0 else 1 + jOf r (p + 1 - x.length)) = (if p = 0 then 0 else 1 + jOf r (p - x.length))
          rw [if_neg hp1, if_neg hp0, show p + 1 - x.length = 0 by omega, show p - x.length = 0 by omega]
      · -- the first piece is read
        have e : hOf (x :: r) p = hOf r (p - x.length) := by
          show (if p = 0 then [] else if p ≤ x.length then x.drop p else hOf r (p - x.length)) = _
          rw [if_neg hp0]
          split
          · rw [show p = x.length by omega, List.drop_length, Nat.sub_self, hOf_zero]
          · rfl
        have ej : jOf (x :: r) p = 1 + jOf r (p - x.length) := by
          show (if p = 0 then 0 else 1 + jOf r (p - x.length)) = _
          rw [if_neg hp0]
        have e1 : hOf (x :: r) (p + 1) = hOf r (p - x.length + 1) := by
          show (if p + 1 = 0 then [] else if p + 1 ≤ x.length then x.drop (p + 1) else hOf r (p + 1 - x.length)) = _
          rw [if_neg hp1, if_neg (by omega), show p + 1 - x.length = p - x.length + 1 by omega]
        have ej1 : jOf (x :: r) (p + 1) = 1 + jOf r (p - x.length + 1) := by
          show (if p + 1 = 0 then 0 else 1 + jOf r (p + 1 - x.length)) = _
          rw [if_neg hp1, show p + 1 - x.length = p - x.length + 1 by omega]
        have ef : (x :: r).flatten.drop p = r.flatten.drop (p - x.length) := by
          rw [List.flatten_cons, List.drop_append, List.drop_eq_nil_of_le hl, List.nil_append]
        cases rdStep r (fun y hy => hne y (.tail _ hy)) (p - x.length) with
        | more h h1 h2 h3 h4 => exact .more (by rw [e]; exact h) (by rw [e, ef]; exact h1) (by rw [e, e1]; exact h2) (by rw [ej, ej1, h3]) (by rw [List.flatten_cons, List.length_append]; omega)
        | next h y h0 h1 h2 h3 h4 => exact .next (by rw [e]; exact h) y (by rw [ej, Nat.add_comm]; exact h0) (by rw [ef]; exact h1) (by rw [e1]; exact h2) (by rw [ej, ej1, h3, Nat.add_assoc]) (by rw [List.flatten_cons, List.length_append]; omega)
        | fin h h0 h1 => exact .fin (by rw [e]; exact h) (by rw [ej, h0]; simp; omega) (by rw [ef]; exact h1)
theorem hOf_len : ∀ (ps : List (List Nat)) (p : Nat), (∀ x ∈ ps, x.length ≤ 100) → (hOf ps p).length ≤ 100
  | [], _, _ => by simp [hOf]
  | x :: r, p, h => by
    have h1 := h x (.head _)
    have h2 := hOf_len r (p - x.length) fun y hy => h y (.tail _ hy)
    unfold hOf; split
    · simp
    · split
      · rw [List.length_drop]; omega
      · exact h2
noncomputable def low (ps es : List (List Nat)) (p : Nat) : Nat := endAt es (jOf ps p)
noncomputable def sumAt (ps : List (List Nat)) (k : Nat) : Nat := (ps.take k).flatten.length
theorem jOf_pos {ps : List (List Nat)} {p : Nat} (h0 : 0 < p) (hp : ps ≠ []) : 0 < jOf ps p := by
  cases ps with
  | nil => exact absurd rfl hp
  | cons x r => unfold jOf; rw [if_neg (by omega)]; omega
theorem jOf_iff : ∀ (ps : List (List Nat)) (p i : Nat), i < ps.length → p ≤ ps.flatten.length → (p ≤ sumAt ps (i + 1) ↔ jOf ps p ≤ i + 1)
  | [], p, i, h, _ => by simp at h
  | x :: r, p, i, h, hl => by
    rcases Nat.eq_zero_or_pos p with hp | hp
    · subst hp; rw [jOf_zero]; simp
    · have e : jOf (x :: r) p = 1 + jOf r (p - x.length) := by
        show (if p = 0 then 0 else 1 + jOf r (p - x.length)) = _
        rw [if_neg (by omega)]
      have es : sumAt (x :: r) (i + 1) = x.length + sumAt r i := by simp [sumAt]
      have hl' : p - x.length ≤ r.flatten.length := by rw [List.flatten_cons, List.length_append] at hl; omega
      rw [e, es]
      cases i with
      | zero =>
        have : sumAt r 0 = 0 := by simp [sumAt]
        rw [this]
        constructor
        · intro q; rw [show p - x.length = 0 by omega, jOf_zero]; omega
        · intro q
          rcases Nat.eq_zero_or_pos (p - x.length) with h1 | h1
          · omega
          · cases r with
            | nil => simp at hl'; omega
            | cons y t => have := jOf_pos (ps := y :: t) h1 (by simp); omega
      | succ i =>
        have ih := jOf_iff r (p - x.length) i (by simpa using h) hl'
        omega
theorem endAt_mono (es : List (List Nat)) {a b : Nat} (h : a ≤ b) : endAt es a ≤ endAt es b := by
  unfold endAt
  obtain ⟨d, rfl⟩ := Nat.exists_eq_add_of_le h
  rw [List.take_add, List.flatten_append, List.length_append]; omega
theorem low_le (ps es : List (List Nat)) (p : Nat) : low ps es p ≤ es.flatten.length := endAt_le _ _
theorem low_pos {ps es : List (List Nat)} (E : Enc ps es) {p : Nat} (h0 : 0 < p) (hp : ps ≠ []) : 0 < low ps es p := by
  have h := jOf_pos h0 hp
  have hle := jOf_le ps p
  have hl := E.len
  unfold low
  have h1 : endAt es 1 ≤ endAt es (jOf ps p) := endAt_mono es h
  have hps : 0 < ps.length := by omega
  have e0 : es[0]? = some es[0] := List.getElem?_eq_getElem (by omega)
  have e1 := (E.get 0 _ _ (List.getElem?_eq_getElem hps) e0).2.2
  have e2 : endAt es 1 = endAt es 0 + es[0].length := endAt_succ e0
  have : 0 < es[0].length := List.length_pos_iff.mpr e1
  omega
noncomputable abbrev Lev := List (List Nat) × List (List Nat)
noncomputable def txt (T0 : List Nat) : List Lev → List Nat
  | [] => T0
  | l :: _ => l.1.flatten
structure LevOk (below : List Nat) (l : Lev) : Prop where
  enc : Enc l.1 l.2
  eq : l.2.flatten = below
  ne : ∀ x ∈ l.1, x ≠ []
  some_ : l.1 ≠ []
  small : below.length < 90000
  plen : ∀ x ∈ l.1, x.length ≤ 100
noncomputable def ChainOk (T0 : List Nat) : List Lev → Prop
  | [] => True
  | l :: r => LevOk (txt T0 r) l ∧ ChainOk T0 r
noncomputable def plc : List Lev → Nat → Nat
  | [], p => p
  | l :: r, p => plc r (low l.1 l.2 p)
noncomputable def lineOf (T : List Nat) (p : Nat) : Int := 1 + ((T.take p).count 10 : Nat)
end Mine
namespace Mine
open PySem PySem.W PyProof.Rows PySem.SeqAt
section
variable {c : Cx} {C aI aR aG aP cc P : Addr}
theorem rdrN {k i j n pb : Nat} {B : Nat × Int → List O} {T : List Nat} {kv : Nat × Int → List (Str × V)} (N : NetK c.K C aI aR aG) (S : Strm c C (Nat × Int) k i j B (tsrd T) kv (fun a => a.2) tbump)
    (hs : ∀ a, (B a).length = n) (hw : ∀ a, at_ (kv a) "whitespace" = some (.str ws4)) (hp : ∀ a, at_ (kv a) "pushback" = some (.ref pb) ∧ (B a)[pb]? = some (.list [])) (hn : ∀ a, at_ (kv a) "_read_char" = none) :
    Rdr c C aR Nat (k + 3) i j n pb (fun p => B (tat 1 T p)) (rdN T) (fun p => kv (tat 1 T p)) (fun _ => ws4) where
  inst := fun p => S.inst _
  ns := fun p => S.ns _
  size := fun p => hs _
  wsp := fun p => hw _
  keep := fun _ => rfl
  pbk := fun p => hp _
  nord := fun p => hn _
  read := fun p ext => by
    have h := readChar N S (tat 1 T p) ext
    rw [show rdOf (tsrd T) tbump (tat 1 T p) = _ from trd_at T p] at h
    exact h
  one := fun p => by
    show piece T p = [] ∨ ∃ ch, piece T p = [ch]
    unfold piece
    cases T.drop p with
    | nil => exact .inl rfl
    | cons x r => exact .inr ⟨x, rfl⟩
theorem Rdr.mid {α : Type} {k i j n pb : Nat} {B : α → List O} {rd : α → List Nat × α} {kv : α → List (Str × V)} {ws : α → List Nat} (T : Rdr c C aR α k i j n pb B rd kv ws) (mid : List O) :
    Rdr c C aR α k i j (n + mid.length) pb (fun a => B a ++ mid) rd kv ws where
  inst := fun a => app_get (T.inst a)
  ns := fun a => app_get (T.ns a)
  size := fun a => by rw [List.length_append, T.size]
  wsp := T.wsp
  keep := T.keep
  pbk := fun a => ⟨(T.pbk a).1, app_get (T.pbk a).2⟩
  nord := T.nord
  read := fun a ext => by
    have h := T.read a (mid ++ ext)
    rw [← List.append_assoc] at h
    refine h.mono ?_
    rintro _ _ ⟨rfl, g, rfl⟩
    exact ⟨rfl, g, by simp⟩
  one := T.one
noncomputable def pgiveS : Stmt := nthS (fBody (stmt 9)) 2
noncomputable def pgiveQ : Str := "_law_pipe.<locals>._law_give"
noncomputable def pgiveF : FnLit := ⟨fName pgiveS, pgiveQ, fArgs pgiveS, fBody pgiveS, fScope pgiveS⟩
noncomputable def pgiveP : Pos := fPos pgiveS
noncomputable def pgiveCl (b : Nat) : List (Str × Nat) := [("lower", b), ("held", b + 1)]
noncomputable def pstr (b : Nat) (C : Addr) (lo : Nat) (h : List Nat) : List O :=
  [.cell (some (.ref lo)), .cell (some (.ref (b + 5))), .ns (put "read" (.ref (b + 6)) (kv0 1 .none (b + 4))), .inst C (b + 2), .list [], .list [.str h], .fn pgiveF (pgiveCl b)]
noncomputable def pblk (b : Nat) (C : Addr) (lo : Nat) (h : List Nat) (l : Int) : List O :=
  pstr b C lo h ++ [.ns (kvW ws4 l (.ref (b + 3)) (b + 9)), .inst C (b + 7), .list []]
theorem nget {A l : List O} {n m : Nat} {x : O} (hs : A.length = n) (e : l[m]? = some x) : (A ++ l)[n + m]? = some x := by subst hs; exact blk_get e
theorem nget0 {A l : List O} {n : Nat} {x : O} (hs : A.length = n) (e : l[0]? = some x) : (A ++ l)[n]? = some x := nget (m := 0) hs e
theorem nset {A l : List O} {n m : Nat} {x : O} (hs : A.length = n) : (A ++ l).set (n + m) x = A ++ l.set m x := by subst hs; exact blk_set
theorem cut_take (h : List Nat) : cut h none (some 1) = h.take 1 := by
  unfold cut clipLo clipHi
  cases h <;> simp
theorem cut_drop (h : List Nat) : cut h (some 1) none = h.drop 1 := by
  unfold cut clipLo clipHi
  cases h with
  | nil => rfl
  | cons a t => simp [Nat.min_eq_left]
theorem take_getD {W es : List (List Nat)} (E : Enc W es) (k : Nat) : Mine.get ws4 (es.flatten.drop (endAt es k)) = (W.getD k [], es.flatten.drop (endAt es (k + 1))) := by
  rcases Nat.lt_or_ge k W.length with h | h
  · rw [E.read (List.getElem?_eq_getElem h), List.getD_eq_getElem?_getD, List.getElem?_eq_getElem h]; rfl
  · have hl := E.len
    rw [endAt_all es (by omega), endAt_all es (by omega), List.drop_length, List.getD_eq_getElem?_getD, List.getElem?_eq_none h]; rfl
theorem tok_at {k i j n pb : Nat} {B : Nat → List O} {kv : Nat → List (Str × V)} {W es : List (List Nat)} (N : NetK c.K C aI aR aG) (R : Rdr c C aR Nat k i j n pb B (rdN es.flatten) kv (fun _ => ws4)) (E : Enc W es) (hT : es.flatten.length < 90000) (m : Nat) (ext : List O) :
    FV c (k + 3) (.top aG) [.ref i] (B (endAt es m) ++ ext) (GQ B (W.getD m []) (endAt es (m + 1)) ext) := by
  have hle := endAt_le es m
  have hle2 := endAt_le es (m + 1)
  obtain ⟨n0, hG⟩ := gs_of ws4 es.flatten hT _ (endAt es m) rfl hle
  rw [take_getD E] at hG
  dsimp only at hG
  rw [show es.flatten.length - (es.flatten.drop (endAt es (m + 1))).length = endAt es (m + 1) by rw [List.length_drop]; omega] at hG
  exact getToken R N hG
theorem ptail {d : Nat} {fx : Fx} {A g : List O} {n i : Nat} {h : List Nat} {l : Int} {loc : List (Str × V)} {X : Fl → St → Prop} (hs : A.length = n) (hcl : fx.cl = pgiveCl n) (hk1 : fx.env.kindOf "held" = some .free) (hk2 : fx.env.kindOf "size" = some .local) (hk3 : fx.env.kindOf "piece" = some .local)
    (hz : at_ loc "size" = some (.int 1)) (hl : h.length ≤ 100000)
    (q : X (.ret (.str (h.take 1))) ⟨put "piece" (.str (h.take 1)) loc, A ++ (pblk n C i (h.drop 1) l ++ g)⟩) : XV c d fx (execs ((fBody pgiveS).drop 1) fx.env) ⟨loc, A ++ (pblk n C i h l ++ g)⟩ X := by
  have hh : fx.cl.lookup ("held" : Str) = some (n + 1) := by rw [hcl]; rfl
  have g1 : (A ++ (pblk n C i h l ++ g))[n + 1]? = some (.cell (some (.ref (n + 5)))) := nget hs rfl
  have g5 : (A ++ (pblk n C i h l ++ g))[n + 5]? = some (.list [.str h]) := nget hs rfl
  refine XV.cons ?_
  refine XV.assign ?_ hk3
  refine EV.slice (l := h) ?_
  refine EV.sub ?_
  refine EV.free hh g1 ?_ hk1
  refine EV.cint ?_
  refine OV2.item g5 (by decide) rfl (by simp) ⟨rfl, by omega, ?_⟩
  refine EV.var hz ⟨1, rfl, ?_⟩ hk2
  show XV _ _ _ _ _ _
  rw [cut_take]
  refine XV.cons ?_
  refine XV.setsubO ?_
  refine EV.slice (l := h) ?_
  refine EV.sub ?_
  refine EV.free hh g1 ?_ hk1
  refine EV.cint ?_
  refine OV2.item g5 (by decide) rfl (by simp) ⟨rfl, by omega, ?_⟩
  refine EV.var (lk_ne hz (by decide)) ⟨1, rfl, ?_⟩ hk2
  show EV _ _ _ _ _ _
  rw [cut_drop]
  refine EV.free hh g1 ?_ hk1
  refine EV.cint ?_
  refine SetI.list g5 (by decide) (by simp) (by simp) ?_
  refine XV.cons ?_
  refine XV.ret ?_
  refine EV.var lk_eq ?_ hk3
  dsimp only
  rw [nset hs]
  exact q
theorem pgive {k i j n pb : Nat} {B : Nat → List O} {kv : Nat → List (Str × V)} {ps es : List (List Nat)} (N : NetK c.K C aI aR aG) (R : Rdr c C aR Nat k i j n pb B (rdN es.flatten) kv (fun _ => ws4)) (hkv : ∀ p, at_ (kv p) "get_token" = none)
    (E : Enc ps es) (hne : ∀ x ∈ ps, x ≠ []) (hT : es.flatten.length < 90000) (hpl : ∀ x ∈ ps, x.length ≤ 100) (p : Nat) (l : Int) (ext : List O) :
    FV c (k + 4) (.ref (n + 6)) [.int 1] (B (low ps es p) ++ pblk n C i (hOf ps p) l ++ ext) (GQ (fun a : Nat × Int => B (low ps es a.1) ++ pblk n C i (hOf ps a.1) a.2) (piece ps.flatten p) (p + (piece ps.flatten p).length, l) ext) := by
  rw [List.append_assoc]
  refine FV.clo (nget (R.size _) rfl) (ns := ["size"]) (fun _ _ _ _ _ xs h => by obtain ⟨_, rfl⟩ := len1 h; rfl) rfl (by decide) (by decide +kernel) (by decide +kernel) fun L a cd cells ρ₀ hρ => ?_
  have hh : (pgiveCl n).lookup ("held" : Str) = some (n + 1) := rfl
  have hlo : (pgiveCl n).lookup ("lower" : Str) = some n := rfl
  refine XV.cons ?_
  refine XV.mono (Q := fun fl σ' => fl = .next ∧ ∃ h q g, σ' = ⟨[("size", .int 1)], B q ++ (pblk n C i h l ++ (ext ++ g))⟩ ∧ h.length ≤ 100 ∧ piece ps.flatten p = h.take 1 ∧ low ps es (p + (piece ps.flatten p).length) = q ∧ hOf ps (p + (piece ps.flatten p).length) = h.drop 1) ?_ ?_
  · refine XV.ifB ?_
    refine TV.cmp ?_
    refine EV.sub ?_
    refine EV.free (i := n + 1) rfl (nget (R.size _) rfl) ?_
    refine EV.cint ?_
    refine OV2.item (l := n + 5) (vs := [.str (hOf ps p)]) (nget (R.size _) rfl) (by decide) rfl (by simp) ?_
    refine EV.cstr (l := []) ?_
    refine OV2.eq_str ⟨_, rfl, fun hb => ?_, fun hb => ?_⟩
    · have he : hOf ps p = [] := by simpa using hb
      refine XV.cons ?_
      refine XV.setsubO ?_
      refine EV.meth (k + 3) ?_ (Nat.le_refl _)
      refine EV.free (i := n) rfl (nget0 (R.size _) rfl) ?_
      refine ⟨i, C, j, _, aG, rfl, app_get (R.inst _), app_get (R.ns _), hkv _, N.cls, N.gt, N.tG, N.kG, ?_⟩
      refine EVs.nil ?_
      refine (tok_at N R E hT (jOf ps p) (pblk n C i (hOf ps p) l ++ ext)).mono ?_
      rintro _ _ ⟨rfl, g, rfl⟩
      refine EV.free (i := n + 1) rfl (nget (R.size _) rfl) ?_
      refine EV.cint ?_
      refine SetI.list (l := n + 5) (vs := [.str (hOf ps p)]) (nget (R.size _) rfl) (by decide) (by simp) (by simp) ?_
      refine XV.nil ⟨rfl, ps.getD (jOf ps p) [], endAt es (jOf ps p + 1), g, ?_, ?_, ?_⟩
      · dsimp only
        rw [nset (R.size _)]
        simp only [List.append_assoc]
        rfl
      · rw [List.getD_eq_getElem?_getD]
        cases hx : ps[jOf ps p]? with
        | none => simp
        | some x => exact hpl x (List.mem_of_getElem? hx)
      · cases rdStep ps hne p with
        | more h => exact absurd he h
        | next h x h0 h1 h2 h3 h4 =>
          have hx : x ≠ [] := hne x (List.mem_of_getElem? h0)
          have hgd : ps.getD (jOf ps p) [] = x := by rw [List.getD_eq_getElem?_getD, h0]; rfl
          have hlen : (piece ps.flatten p).length = 1 := by
            unfold piece; rw [h1]
            cases x with
            | nil => exact absurd rfl hx
            | cons _ _ => simp
          rw [hlen, hgd]
          exact ⟨h1, by unfold low; rw [h3], h2⟩
        | fin h h0 h1 =>
          have hp : piece ps.flatten p = [] := by unfold piece; rw [h1]; rfl
          have hgd : ps.getD (jOf ps p) [] = [] := by rw [List.getD_eq_getElem?_getD, h0, List.getElem?_eq_none (Nat.le_refl _)]; rfl
          rw [hp, hgd]
          refine ⟨rfl, ?_, by simpa using h⟩
          unfold low
          rw [show p + ([] : List Nat).length = p from rfl, h0]
          have := E.len
          rw [endAt_all es (by omega), endAt_all es (by omega)]
    · have he : hOf ps p ≠ [] := by simpa using hb
      refine XV.nil ⟨rfl, hOf ps p, low ps es p, [], by simp, ?_⟩
      cases rdStep ps hne p with
      | more h h1 h2 h3 h4 =>
        have hlen : (piece ps.flatten p).length = 1 := by
          unfold piece; rw [h1]
          cases hx : hOf ps p with
          | nil => exact absurd hx he
          | cons _ _ => simp
        rw [hlen]
        refine ⟨?_, h1, by unfold low; rw [h3], h2⟩
        exact hOf_len ps p hpl
      | next h => exact absurd h he
      | fin h => exact absurd h he
  rintro _ _ ⟨rfl, h, q, g, rfl, hl, h1, h2, h3⟩
  refine ptail (R.size _) rfl rfl rfl rfl rfl (by omega) ?_
  refine ⟨by rw [h1], g, ?_⟩
  dsimp only
  rw [h2, h3, List.append_assoc]
end
end Mine
namespace Mine
open PySem PySem.W PyProof.Rows PySem.SeqAt
section
variable {c : Cx} {C aI aR aG aP cc P : Addr}
theorem pipeS {k i j n pb : Nat} {B : Nat → List O} {kv : Nat → List (Str × V)} {ps es : List (List Nat)} (N : NetK c.K C aI aR aG) (R : Rdr c C aR Nat k i j n pb B (rdN es.flatten) kv (fun _ => ws4)) (hkv : ∀ p, at_ (kv p) "get_token" = none)
    (E : Enc ps es) (hne : ∀ x ∈ ps, x ≠ []) (hT : es.flatten.length < 90000) (hpl : ∀ x ∈ ps, x.length ≤ 100) :
    Strm c C (Nat × Int) (k + 4) (n + 8) (n + 7) (fun a => B (low ps es a.1) ++ pblk n C i (hOf ps a.1) a.2) (tsrd ps.flatten) (fun a => kvW ws4 a.2 (.ref (n + 3)) (n + 9)) (fun a => a.2) tbump where
  inst := fun a => nget (R.size _) rfl
  ns := fun a => nget (R.size _) rfl
  len := fun a => (show (4 : Nat) < 1000 by decide)
  lineno := fun a => rfl
  bumped := fun a => by rw [nset (R.size _)]; rfl
  read := fun a => ⟨n + 3, n + 2, _, n + 6, _, _, rfl, nget (R.size _) rfl, nget (R.size _) rfl, rfl, nget (R.size _) rfl, fun ext => pgive N R hkv E hne hT hpl a.1 a.2 ext⟩
theorem pipeR {k i j n pb : Nat} {B : Nat → List O} {kv : Nat → List (Str × V)} {ps es : List (List Nat)} (N : NetK c.K C aI aR aG) (R : Rdr c C aR Nat k i j n pb B (rdN es.flatten) kv (fun _ => ws4)) (hkv : ∀ p, at_ (kv p) "get_token" = none)
    (E : Enc ps es) (hne : ∀ x ∈ ps, x ≠ []) (hT : es.flatten.length < 90000) (hpl : ∀ x ∈ ps, x.length ≤ 100) :
    Rdr c C aR Nat (k + 7) (n + 8) (n + 7) (n + 10) (n + 9) (fun p => B (low ps es p) ++ pblk n C i (hOf ps p) (lineOf ps.flatten p)) (rdN ps.flatten) (fun p => kvW ws4 (lineOf ps.flatten p) (.ref (n + 3)) (n + 9)) (fun _ => ws4) :=
  rdrN N (pipeS N R hkv E hne hT hpl) (fun a => by rw [List.length_append, R.size]; rfl) (fun a => rfl) (fun a => ⟨rfl, nget (R.size _) rfl⟩) (fun a => rfl)
structure PipK (K : Frag) (aP cc : Addr) : Prop where
  gP : nsIn K mainGlobals "_law_pipe" = some (some (.ref aP))
  kP : keepIn K (.ref aP) = true
  fP : FnKc K aP "_law_pipe" (stmt 9) (.ref cc)
theorem pipe {hp : List O} {t lo : Nat} {pi pi' : List (Pos × Str)} (N : NetK c.K C aI aR aG) (S : PipK c.K aP cc) (hC : CodeHd c.H₀ cc P) (ho : hp[t]? = some (.tab P t pi)) (hpi : TabStep pgiveP pgiveQ pi pi') :
    FV c 5 (.top aP) [.ref lo] hp (fun w hp' => w = .ref (hp.length + 3) ∧ hp' = hp.set t (.tab P t pi') ++ pstr hp.length C lo []) := by
  refine FV.fnC S.fP (ns := ["lower"]) (cs := ["lower", "held"]) (fun _ _ _ _ xs h => by obtain ⟨_, rfl⟩ := len1 h; rfl) rfl (by decide) (by decide +kernel) (by decide) (by decide +kernel) (by decide +kernel) fun L cells ρ₀ hρ => ?_
  have ht := (List.getElem?_eq_some_iff.mp ho).1
  refine XV.st2 (loc' := []) (hp' := hp ++ [.cell (some (.ref lo)), .cell none]) rfl rfl ?_
  have l2 : (hp ++ [O.cell (some (V.ref lo)), O.cell none]).length = hp.length + 2 := by simp
  refine XV.cons (XV.assign (EV.call 3 N.gC N.kC (EVs.cons (EV.cnone (EVs.nil (new_ N |>.mono ?_))))))
  rintro _ _ ⟨rfl, rfl⟩
  refine XV.st2 (loc' := [("stream", .ref (hp.length + 3))]) (hp' := hp ++ [.cell (some (.ref lo)), .cell none, .ns (kv0 1 .none (hp.length + 4)), .inst C (hp.length + 2), .list []]) (by dsimp only; rw [l2]; rfl) (by dsimp only; rw [l2]; simp) ?_
  refine XV.cons ?_
  refine XV.assignC (i := hp.length + 1) ?_ rfl
  refine EV.list ?_
  refine EVs.cons ?_
  refine EV.cstr (l := []) ?_
  refine EVs.nil ⟨(show (1 : Nat) ≤ 1000 by decide), none, app_get (blk_get rfl), ?_⟩
  refine XV.st2 (loc' := [("stream", .ref (hp.length + 3))]) (hp' := hp ++ [.cell (some (.ref lo)), .cell (some (.ref (hp.length + 5))), .ns (kv0 1 .none (hp.length + 4)), .inst C (hp.length + 2), .list [], .list [.str []]]) rfl (by
    dsimp only
    rw [List.append_assoc, blk_set]
    simp) ?_
  refine XV.cons (XV.def_ (P := P) (i := t) (pi := pi) (pi' := pi') (qual := pgiveQ) (cl' := pgiveCl hp.length) rfl hC (app_get ho) hpi (by rfl) ?_)
  refine XV.st2 (loc' := [("stream", .ref (hp.length + 3)), ("_law_give", .ref (hp.length + 6))]) (hp' := hp.set t (.tab P t pi') ++ [.cell (some (.ref lo)), .cell (some (.ref (hp.length + 5))), .ns (kv0 1 .none (hp.length + 4)), .inst C (hp.length + 2), .list [], .list [.str []], .fn pgiveF (pgiveCl hp.length)])
    (by dsimp only; rw [List.length_append]; rfl) (by dsimp only; rw [List.set_append_left _ _ ht, List.append_assoc]; rfl) ?_
  have hsl : (hp.set t (O.tab P t pi')).length = hp.length := by simp
  refine XV.cons (XV.setattr (EV.var rfl (EV.var rfl ⟨_, C, _, _, rfl, nget (m := 3) hsl rfl, nget (m := 2) hsl rfl, N.cls, N.a5, (show (4 : Nat) < 1000 by decide), ?_⟩)))
  refine XV.cons (XV.ret (EV.var rfl ⟨rfl, ?_⟩))
  dsimp only
  rw [nset hsl]
  rfl
noncomputable def mi (h : Nat) : Nat → Nat
  | 0 => h + 8
  | m + 1 => h + 11 + 10 * m + 8
noncomputable def BB (H : List O) (C : Addr) (T0 : List Nat) (R : List V) : List Lev → Nat → List O
  | [], p => H ++ blk H.length C T0 ws4 (tat 1 T0 p) ++ [.list R]
  | l :: r, p => BB H C T0 R r (low l.1 l.2 p) ++ pblk (H.length + 11 + 10 * r.length) C (mi H.length r.length) (hOf l.1 p) (lineOf l.1.flatten p)
theorem BB.get {H : List O} {T0 : List Nat} {R : List V} {i : Nat} {o : O} (h : H[i]? = some o) : ∀ (L : List Lev) (p : Nat), (BB H C T0 R L p)[i]? = some o
  | [], p => app_get (app_get h)
  | l :: r, p => app_get (BB.get h r _)
theorem BB.at {H : List O} {T0 : List Nat} {R : List V} : ∀ (L : List Lev) (p : Nat), (BB H C T0 R L p)[H.length]? = some (.list [.int (plc L p : Nat)])
  | [], p => app_get (blk_get0 rfl)
  | l :: r, p => app_get (BB.at r _)
theorem BB.row {H : List O} {T0 : List Nat} {R : List V} : ∀ (L : List Lev) (p : Nat), (BB H C T0 R L p)[H.length + 10]? = some (.list R)
  | [], p => by
    unfold BB; rw [List.append_assoc]; exact blk_get rfl
  | l :: r, p => app_get (BB.row r _)
theorem BB.len {H : List O} {T0 : List Nat} {R : List V} : ∀ (L : List Lev) (p : Nat), (BB H C T0 R L p).length = H.length + 11 + 10 * L.length
  | [], p => by unfold BB; rw [List.length_append, List.length_append]; rfl
  | l :: r, p => by
    unfold BB; rw [List.length_append, BB.len r, List.length_cons]
    show _ + 10 = _; omega
theorem BB.setRow {H : List O} {T0 : List Nat} {R R' : List V} : ∀ (L : List Lev) (p : Nat), (BB H C T0 R L p).set (H.length + 10) (.list R') = BB H C T0 R' L p
  | [], p => by
    unfold BB; rw [List.append_assoc, blk_set, List.append_assoc]; rfl
  | l :: r, p => by
    unfold BB
    rw [List.set_append_left _ _ (by rw [BB.len]; omega), BB.setRow r]
theorem BB.setH {H : List O} {T0 : List Nat} {R : List V} {t : Nat} {x : O} (ht : t < H.length) : ∀ (L : List Lev) (p : Nat), (BB H C T0 R L p).set t x = BB (H.set t x) C T0 R L p
  | [], p => by
    unfold BB
    rw [List.append_assoc, List.set_append_left _ _ ht, List.append_assoc, List.length_set]
  | l :: r, p => by
    unfold BB
    rw [List.set_append_left _ _ (by rw [BB.len]; omega), BB.setH ht r, List.length_set]
structure ChainR (c : Cx) (C aR : Addr) (H : List O) (T0 : List Nat) (R : List V) (L : List Lev) (kv : Nat → List (Str × V)) : Prop where
  rdr : Rdr c C aR Nat (4 + 7 * L.length) (mi H.length L.length) (mi H.length L.length - 1) (H.length + 11 + 10 * L.length) (mi H.length L.length + 1) (BB H C T0 R L) (rdN (txt T0 L)) kv (fun _ => ws4)
  gt : ∀ p, at_ (kv p) "get_token" = none
  ln : ∀ p, at_ (kv p) "lineno" = some (.int (lineOf (txt T0 L) p))
theorem chain {H : List O} {T0 : List Nat} {R : List V} (N : NetK c.K C aI aR aG) (gLen : nsIn c.K mainGlobals "len" = some none) (hT : T0.length < 90000) : ∀ (L : List Lev), ChainOk T0 L → ∃ kv, ChainR c C aR H T0 R L kv
  | [], _ => by
    have z := (rdrN (aR := aR) (n := H.length + 10) (pb := H.length + 9) N (strmT (H := H) (T := T0) (ws := ws4) N (by omega) gLen) (fun a => by rw [List.length_append]; rfl) (fun a => rfl) (fun a => ⟨rfl, blk_get rfl⟩) (fun a => rfl)).mid [.list R]
    exact ⟨fun p => kvW ws4 (lineOf T0 p) (.ref (H.length + 4)) (H.length + 9), ⟨z, fun p => rfl, fun p => rfl⟩⟩
  | l :: r, h => by
    obtain ⟨kv, K⟩ := chain (H := H) (R := R) N gLen hT r h.2
    have hl := h.1
    have hR := K.rdr
    rw [← hl.eq] at hR
    have z := pipeR N hR K.gt hl.enc hl.ne (by rw [hl.eq]; exact hl.small) hl.plen
    refine ⟨fun p => kvW ws4 (lineOf l.1.flatten p) (.ref (H.length + 11 + 10 * r.length + 3)) (H.length + 11 + 10 * r.length + 9), ⟨?_, fun p => rfl, fun p => rfl⟩⟩
    rw [List.length_cons, show 4 + 7 * (r.length + 1) = 4 + 7 * r.length + 7 by omega, show H.length + 11 + 10 * (r.length + 1) = H.length + 11 + 10 * r.length + 10 by omega]
    exact z
end
end Mine
namespace Mine
open PySem PySem.W PyProof.Rows PySem.SeqAt
structure WriK (K : Frag) (aW : Addr) : Prop where
  gW : nsIn K mainGlobals "_law_written" = some (some (.ref aW))
  kW : keepIn K (.ref aW) = true
  fW : FnK K aW "_law_written" (stmt 6)
  gLen : nsIn K mainGlobals "len" = some none
  gRange : nsIn K mainGlobals "range" = some none
section
variable {c : Cx} {aW : Addr}
structure WrJ (hp : List O) (wi fi : Nat) (es : List (List Nat)) (T : List Nat) (σ : St) : Prop where
  words : at_ σ.loc "words" = some (.ref wi)
  figures : at_ σ.loc "figures" = some (.ref fi)
  text : at_ σ.loc "text" = some (.str T)
  ends : at_ σ.loc "ends" = some (.ref hp.length)
  hp : ∃ g, σ.hp = hp ++ .list (endsV es) :: g
theorem WrJ.put {hp : List O} {wi fi : Nat} {es : List (List Nat)} {T : List Nat} {σ : St} {x : Str} {v : V} (I : WrJ hp wi fi es T σ)
    (h : ((("words" : Str) == x) || (("figures" : Str) == x) || (("text" : Str) == x) || (("ends" : Str) == x)) = false) : WrJ hp wi fi es T ⟨Mine.put x v σ.loc, σ.hp⟩ := by
  simp only [Bool.or_eq_false_iff] at h
  exact ⟨lk_ne I.words h.1.1.1, lk_ne I.figures h.1.1.2, lk_ne I.text h.1.2, lk_ne I.ends h.2, I.hp⟩
theorem WrJ.putT {hp : List O} {wi fi : Nat} {es : List (List Nat)} {T T' : List Nat} {σ : St} (I : WrJ hp wi fi es T σ) : WrJ hp wi fi es T' ⟨Mine.put "text" (.str T') σ.loc, σ.hp⟩ :=
  ⟨lk_ne I.words (by decide), lk_ne I.figures (by decide), lk_eq, lk_ne I.ends (by decide), I.hp⟩
theorem WrJ.at {hp : List O} {wi fi : Nat} {es : List (List Nat)} {T : List Nat} {σ : St} (I : WrJ hp wi fi es T σ) {i : Nat} {o : O} (e : hp[i]? = some o) : σ.hp[i]? = some o := by
  obtain ⟨g, q⟩ := I.hp; rw [q]; exact get_app e
theorem take_snoc {α : Type} {l : List α} {m : Nat} {x : α} (h : l[m]? = some x) : l.take (m + 1) = l.take m ++ [x] := by rw [List.take_add_one, h]; rfl
theorem lawWritten {hp : List O} {wi fi : Nat} {W : List (List Nat)} {F : List Nat} (L : WriK c.K aW) (h1 : hp[wi]? = some (.list (svs W))) (h2 : hp[fi]? = some (.list (ivs F))) (hF : F ≠ []) (hFl : F.length ≤ 1000) (hW : W.length ≤ 200) (hb : ∀ w ∈ W, w.length ≤ 100) :
    FV c 2 (.top aW) [.ref wi, .ref fi] hp (fun v hp' => ∃ es, v = .tup [.str es.flatten, .ref hp.length] ∧ Enc W es ∧ ∃ g, hp' = hp ++ .list (endsV es) :: g) := by
  refine FV.fn L.fW (ns := ["words", "figures"]) (fun _ _ _ _ xs h => by obtain ⟨_, _, rfl⟩ := len2 h; rfl) rfl (by decide) (by decide +kernel) (by decide +kernel) fun Lo cd ρ₀ hρ => ?_
  refine XV.cons ?_
  refine XV.assign ?_
  refine EV.cstr (l := []) ?_
  refine XV.cons ?_
  refine XV.assign ?_
  refine EV.list ?_
  refine EVs.nil ⟨(show (0 : Nat) ≤ 1000 by decide), ?_⟩
  refine XV.cons ?_
  refine XV.forS ?_
  refine EV.callT L.gRange Boot.«range» (by decide) ?_
  refine EVs.cons ?_
  refine EV.callB L.gLen Boot.«len» (by decide) ?_
  refine EVs.cons ?_
  refine EV.var rfl ?_
  refine EVs.nil ?_
  refine OVs.len_list (app_get h1) (by rw [svs_len]; omega) ?_
  refine EVs.nil ?_
  refine OVs.range1 ?_
  rw [svs_len]
  refine ⟨_, _, _, Src.upto (n := W.length) (by simp) (by omega), fun m σ => ∃ es, WrJ hp wi fi es es.flatten σ ∧ Enc (W.take m) es, ⟨[], ⟨rfl, rfl, rfl, rfl, [.rng 0 W.length 1], by simp [endsV]⟩, by simpa using Enc.nil⟩, fun _ _ _ => trivial, ?_, ?_⟩
  · intro ρ₁ hρ₁ m σ hm ⟨es, I, hE⟩
    obtain ⟨w, hw⟩ : ∃ w, W[m]? = some w := ⟨_, List.getElem?_eq_getElem hm⟩
    have hwl : w.length ≤ 100 := hb w (List.mem_of_getElem? hw)
    have hF0 : 0 < F.length := List.length_pos_iff.mpr hF
    obtain ⟨f, hf⟩ : ∃ f, F[m % F.length]? = some f := ⟨_, List.getElem?_eq_getElem (Nat.mod_lt _ hF0)⟩
    have hfm : ((m : Int).fmod ((F.length : Nat) : Int)) = ((m % F.length : Nat) : Int) := by rw [Int.fmod_eq_emod_of_nonneg _ (by omega)]; rfl
    have hEl : es.length = m := by have := hE.len; rw [List.length_take] at this; omega
    have hsz := hE.size (b := 100) fun u hu => hb u (List.mem_of_mem_take hu)
    refine OU1.name ?_
    have I₁ := I.put (x := "i") (v := .int (m : Nat)) (by decide)
    have hi₁ : at_ (put "i" (.int (m : Nat)) σ.loc) "i" = some (.int (m : Nat)) := lk_eq
    generalize put "i" (.int (m : Nat)) σ.loc = loc₁ at I₁ hi₁ ⊢
    refine XV.cons ?_
    refine XV.assign ?_
    refine EV.sub ?_
    refine EV.var I₁.figures ?_
    refine EV.binop ?_
    refine EV.var hi₁ ?_
    refine EV.callB L.gLen Boot.«len» (by decide) ?_
    refine EVs.cons ?_
    refine EV.var I₁.figures ?_
    refine EVs.nil ?_
    refine OVs.len_list (I₁.at h2) (by rw [ivs_len]; omega) ?_
    rw [ivs_len]
    refine OV2.mod_int (by omega) ?_
    rw [hfm]
    refine OV2.item (I₁.at h2) (by omega) (by exact ivs_get hf) (by rw [ivs_len]; omega) ?_
    have I₂ := I₁.put (x := "figure") (v := .int (f : Nat)) (by decide)
    have hi₂ : at_ (put "figure" (.int (f : Nat)) loc₁) "i" = some (.int (m : Nat)) := lk_ne hi₁ (by decide)
    have hf₂ : at_ (put "figure" (.int (f : Nat)) loc₁) "figure" = some (.int (f : Nat)) := lk_eq
    show XV _ _ _ _ ⟨put "figure" (.int (f : Nat)) loc₁, σ.hp⟩ _
    generalize put "figure" (.int (f : Nat)) loc₁ = loc₂ at I₂ hi₂ hf₂ ⊢
    clear I₁ hi₁ I
    have item : ∀ {value slice : Expr} {fx : Fx} {d : Nat} {Q : V → St → Prop} {σ : St}, WrJ hp wi fi es es.flatten σ → SubOk slice → Q (.str w) σ → OV2 c d fx (fun o i => subscriptTail value slice o i) (.ref wi) (.int (m : Nat)) σ Q := fun I hs q =>
      OV2.item (I.at h1) (by omega) (by exact svs_get hw) (by rw [svs_len]; omega) q hs
    refine XV.cons ?_
    refine XV.mono (Q := fun fl σ' => fl = .next ∧ WrJ hp wi fi es (es.flatten ++ enc f w) σ') ?_ ?_
    · refine XV.ifB ?_
      refine TV.mono (Q := fun b σ' => σ' = ⟨loc₂, σ.hp⟩ ∧ (b = true ↔ f % 2 = 1 ∨ w = [])) ?_ ?_
      · refine TV.orB ?_
        refine TV.cmp ?_
        refine EV.binop ?_
        refine EV.var hf₂ ?_
        refine EV.cint ?_
        refine OV2.mod_int (by decide) ?_
        refine EV.cint ?_
        have hmod : (f : Int).fmod 2 = ((f % 2 : Nat) : Int) := by rw [Int.fmod_eq_emod_of_nonneg _ (by decide)]; rfl
        rw [hmod]
        refine OV2.eq_int ⟨_, rfl, fun h => ?_, fun h => ?_⟩
        · have h := beq_iff_eq.mp h
          exact ⟨rfl, fun _ => .inl (by omega), fun _ => rfl⟩
        · have h : f % 2 ≠ 1 := fun q => by rw [q] at h; cases h
          refine TV.orB ?_
          refine TV.cmp ?_
          refine EV.sub ?_
          refine EV.var I₂.words ?_
          refine EV.var hi₂ ?_
          refine item I₂ (by intro _ _; exact ⟨_, rfl⟩) ?_
          refine EV.cstr (l := []) ?_
          refine OV2.eq_str ⟨_, rfl, fun h2 => ?_, fun h2 => ?_⟩
          · exact ⟨rfl, fun _ => .inr (beq_iff_eq.mp h2), fun _ => rfl⟩
          · refine TV.or0 ⟨rfl, fun q => (by cases q), fun q => ?_⟩
            rcases q with q | q
            · exact absurd q h
            · rw [q] at h2; cases h2
      rintro bo _ ⟨rfl, hbo⟩
      refine ⟨fun hb => ?_, fun hb => ?_⟩
      · have hq := hbo.mp hb
        refine XV.cons ?_
        refine XV.aug I₂.text ?_
        refine EV.binop ?_
        refine EV.binopK (l := [34]) ?_
        refine EVp.replace ?_
        refine EVp.replace ?_
        refine EVp.of ?_
        refine EV.sub ?_
        refine EV.var I₂.words ?_
        refine EV.var hi₂ ?_
        refine item I₂ (by intro _ _; exact ⟨_, rfl⟩) ?_
        refine ⟨w, rfl, by omega, fun x hx => ?_⟩
        have hr1 : (Txt.replace x (Str.ofString "\\") (Str.ofString "\\\\")).cps.toList = sub1 92 [92, 92] w := by
          rw [show Txt.replace x (Str.ofString "\\") (Str.ofString "\\\\") = Txt.replace x ⟨#[92]⟩ ⟨#[92, 92]⟩ by congr 1, replace_sub, hx]
        have hl1 : (sub1 92 [92, 92] w).length ≤ 2 * w.length := flat_le2 _ (fun c => by split <;> simp) w
        rw [hr1]
        refine ⟨_, rfl, by omega, fun y hy => ?_⟩
        have hr2 : (Txt.replace y (Str.ofString "\"") (Str.ofString "\\\"")).cps.toList = w.flatMap q2 := by
          rw [show Txt.replace y (Str.ofString "\"") (Str.ofString "\\\"") = Txt.replace y ⟨#[34]⟩ ⟨#[92, 34]⟩ by congr 1, replace_sub, hy, ← sub_q2]
        have hl2 := flat_le2 q2 q2_len w
        rw [hr2]
        generalize hqw : w.flatMap q2 = qw at hl2 ⊢
        refine OV2.add_str (by rw [sizeLine_eq]; simp; omega) ?_
        refine EV.cstr (l := [34]) ?_
        refine OV2.add_str (by rw [sizeLine_eq]; simp; omega) ?_
        refine OV2.iadd_str (by rw [sizeLine_eq]; simp only [List.length_append, List.length_cons, List.length_nil]; omega) ?_
        refine XV.nil ⟨rfl, ?_⟩
        have e : es.flatten ++ enc f w = es.flatten ++ ([34] ++ qw ++ [34]) := by
          unfold enc; rw [if_pos hq, hqw]; rfl
        rw [e]
        exact I₂.putT
      · have hq : ¬ (f % 2 = 1 ∨ w = []) := fun q => by rw [hbo.mpr q] at hb; cases hb
        refine XV.cons ?_
        refine XV.forS ?_
        refine EV.sub ?_
        refine EV.var I₂.words ?_
        refine EV.var hi₂ ?_
        refine item I₂ (by intro _ _; exact ⟨_, rfl⟩) ?_
        refine ⟨_, _, _, Src.str (l := w), fun k σ' => WrJ hp wi fi es (es.flatten ++ (w.take k).flatMap p2) σ' ∧ at_ σ'.loc "figure" = some (.int (f : Nat)), ⟨by simpa using I₂, hf₂⟩, fun _ _ _ => trivial, ?_, ?_⟩
        · intro ρ₂ hρ₂ k σ₃ hk ⟨I₃, hf₃⟩
          obtain ⟨ch, hch⟩ : ∃ ch, w[k]? = some ch := ⟨_, List.getElem?_eq_getElem hk⟩
          have hgd : w.getD k 0 = ch := by rw [List.getD_eq_getElem?_getD, hch]; rfl
          rw [hgd]
          refine OU1.name ?_
          have I₄ := I₃.put (x := "sign") (v := .str [ch]) (by decide)
          have hl3 := flat_le2 p2 p2_len (w.take k)
          have hl4 : (w.take k).length ≤ 100 := by rw [List.length_take]; omega
          have et : (w.take (k + 1)).flatMap p2 = (w.take k).flatMap p2 ++ p2 ch := by rw [take_snoc hch, List.flatMap_append]; simp
          refine XV.cons ?_
          refine XV.aug I₄.text ?_
          refine EV.mono (Q := fun v σ' => v = .str (p2 ch) ∧ σ' = ⟨put "sign" (.str [ch]) σ₃.loc, σ₃.hp⟩) ?_ ?_
          · refine EV.ifB ?_
            refine TV.cmp ?_
            refine EV.var lk_eq ?_
            refine EV.cstr (l := spec6) ?_
            refine OV2.in_str ⟨_, rfl, fun h => ?_, fun h => ?_⟩
            · have h : ch ∈ spec6 := of_decide_eq_true h
              refine EV.binop ?_
              refine EV.cstr (l := [92]) ?_
              refine EV.var lk_eq ?_
              refine OV2.add_str (by rw [sizeLine_eq]; simp) ⟨?_, rfl⟩
              unfold p2; rw [if_pos h]; rfl
            · have h : ch ∉ spec6 := of_decide_eq_false h
              refine EV.var lk_eq ⟨?_, rfl⟩
              unfold p2; rw [if_neg h]
          rintro _ _ ⟨rfl, rfl⟩
          have hp2 := p2_len ch
          refine OV2.iadd_str (by rw [sizeLine_eq]; simp only [List.length_append]; omega) ?_
          refine XV.nil ⟨?_, lk_ne (lk_ne hf₃ (by decide)) (by decide)⟩
          rw [et, ← List.append_assoc]
          exact I₄.putT
        · rintro σ₃ ⟨I₃, hf₃⟩
          rw [List.take_length] at I₃
          have hl3 := flat_le2 p2 p2_len w
          refine XV.cons ?_
          refine XV.aug I₃.text ?_
          refine EV.mono (Q := fun v σ' => v = .str [if f % 4 = 0 then 10 else 32] ∧ σ' = σ₃) ?_ ?_
          · refine EV.ifB ?_
            refine TV.cmp ?_
            refine EV.binop ?_
            refine EV.var hf₃ ?_
            refine EV.cint ?_
            refine OV2.mod_int (by decide) ?_
            refine EV.cint ?_
            have hmod : (f : Int).fmod 4 = ((f % 4 : Nat) : Int) := by rw [Int.fmod_eq_emod_of_nonneg _ (by decide)]; rfl
            rw [hmod]
            refine OV2.eq_int ⟨_, rfl, fun h => ?_, fun h => ?_⟩
            · have h := beq_iff_eq.mp h
              refine EV.cstr (l := [10]) ⟨?_, rfl⟩
              rw [if_pos (by omega)]
            · have h : f % 4 ≠ 0 := fun q => by rw [q] at h; cases h
              refine EV.cstr (l := [32]) ⟨?_, rfl⟩
              rw [if_neg h]
          rintro _ _ ⟨rfl, rfl⟩
          refine OV2.iadd_str (by rw [sizeLine_eq]; simp only [List.length_append, List.length_cons, List.length_nil]; omega) ?_
          refine XV.nil ⟨rfl, ?_⟩
          have e : es.flatten ++ enc f w = es.flatten ++ w.flatMap p2 ++ [if f % 4 = 0 then 10 else 32] := by
            unfold enc; rw [if_neg hq, List.append_assoc]
          rw [e]
          exact I₃.putT
    rintro _ σ₅ ⟨rfl, I₅⟩
    have hel := enc_len f w
    have efl : es.flatten ++ enc f w = (es ++ [enc f w]).flatten := by rw [List.flatten_append]; simp
    rw [efl] at I₅
    have hsz2 : (es ++ [enc f w]).flatten.length ≤ 100000 := by rw [← efl, List.length_append]; omega
    obtain ⟨g, hg⟩ := I₅.hp
    refine XV.cons ?_
    refine XV.expr ?_
    refine EV.append ?_
    refine EV.var I₅.ends ⟨⟨_, _, rfl, by rw [hg]; exact ga⟩, ?_⟩
    refine EVs.cons ?_
    refine EV.callB L.gLen Boot.«len» (by decide) ?_
    refine EVs.cons ?_
    refine EV.var I₅.text ?_
    refine EVs.nil ?_
    refine OVs.len_str (by omega) ?_
    refine EVs.nil ?_
    refine OVs.append (vs := endsV es) (by rw [hg]; exact ga) (by rw [endsV_len]; omega) ?_
    rw [endsV_snoc]
    refine XV.nil ?_
    refine ⟨es ++ [enc f w], ⟨I₅.words, I₅.figures, I₅.text, I₅.ends, g, ?_⟩, ?_⟩
    · show σ₅.hp.set _ _ = _
      rw [hg, sa]
    · rw [take_snoc hw]; exact hE.snoc f w
  · rintro σ ⟨es, I, hE⟩
    rw [List.take_length] at hE
    obtain ⟨g, hg⟩ := I.hp
    refine XV.cons ?_
    refine XV.ret ?_
    refine EV.tuple ?_
    refine EVs.cons ?_
    refine EV.var I.text ?_
    refine EVs.cons ?_
    refine EV.var I.ends ?_
    refine EVs.nil ⟨(show (2 : Nat) ≤ 1000 by decide), ?_⟩
    exact ⟨es, rfl, hE, g, hg⟩
end
end Mine
namespace Mine
open PySem PySem.W PyProof.Rows PySem.SeqAt
structure FigK (K : Frag) (aF : Addr) : Prop where
  gF : nsIn K mainGlobals "_law_figures" = some (some (.ref aF))
  kF : keepIn K (.ref aF) = true
  fF : FnK K aF "_law_figures" (stmt 4)
  gLen : nsIn K mainGlobals "len" = some none
  gAbs : nsIn K mainGlobals "abs" = some none
section
variable {c : Cx} {C aI aR aG aF : Addr}
structure Scr (c : Cx) (a : Addr) (xs : List Value) (vs : List V) : Prop where
  lst : c.H₀.IsList a xs.toArray
  rel : ∀ ρ h, VRs ρ h vs xs
  nums : ∀ v ∈ vs, ∃ i : Int, v = .int i
theorem ap1 {hp : List O} {a : O} {r : List O} : (hp ++ a :: r)[hp.length]? = some a := by rw [List.getElem?_append_right (by omega)]; simp
theorem as1 {hp : List O} {a x : O} {r : List O} : (hp ++ a :: r).set hp.length x = hp ++ x :: r := by rw [List.set_append_right _ _ (by omega)]; simp
structure FgI (hp : List O) (F : List Nat) (σ : St) : Prop where
  fig : at_ σ.loc "figures" = some (.ref hp.length)
  len : F.length ≤ 8
  lt : ∀ f ∈ F, f < 16
  hp : σ.hp = hp ++ [.list (ivs F)]
theorem FgI.put {hp : List O} {F : List Nat} {σ : St} {x : Str} {v : V} (I : FgI hp F σ) (h : (("figures" : Str) == x) = false) : FgI hp F ⟨Mine.put x v σ.loc, σ.hp⟩ :=
  ⟨lk_ne I.fig h, I.len, I.lt, I.hp⟩
theorem lawFigures {hp : List O} {a : Addr} {xs : List Value} {vs : List V} (L : FigK c.K aF) (S : Scr c a xs vs) :
    FV c 2 (.top aF) [.top a] hp (fun v hp' => ∃ (F : List Nat) (i : Nat) (g : List O), v = .ref i ∧ hp' = hp ++ g ∧ hp'[i]? = some (.list (ivs F)) ∧ hp.length ≤ i ∧ F.length ≤ 8 ∧ F ≠ [] ∧ ∀ f ∈ F, f < 16) := by
  refine FV.fn L.fF (ns := ["script"]) (fun _ _ _ _ xs h => by obtain ⟨_, rfl⟩ := len1 h; rfl) rfl (by decide) (by decide +kernel) (by decide +kernel) fun Lo cd ρ₀ hρ => ?_
  refine XV.cons ?_
  refine XV.assign ?_
  refine EV.list ?_
  refine EVs.nil ⟨(show (0 : Nat) ≤ 1000 by decide), ?_⟩
  refine XV.st2 (loc' := [("script", .top a), ("figures", .ref hp.length)]) (hp' := hp ++ [.list (ivs [])]) rfl rfl ?_
  refine XV.cons ?_
  refine XV.forS ?_
  refine EV.var rfl ⟨_, _, _, Src.base S.lst S.rel, fun i σ => ∃ F, FgI hp F σ, ⟨[], rfl, by simp, by simp, rfl⟩, fun _ _ _ => trivial, ?_, ?_⟩
  · intro ρ₁ hρ₁ i σ hi ⟨F, I⟩
    obtain ⟨x, hx⟩ := S.nums (vs.getD i .none) (by rw [List.getD_eq_getElem?_getD, List.getElem?_eq_getElem hi]; exact List.getElem_mem hi)
    rw [hx]
    refine OU1.name ?_
    have I := I.put (x := "x") (v := .int x) (by decide)
    refine XV.cons ?_
    refine XV.assign ?_
    refine EV.binop ?_
    refine EV.callB L.gAbs Boot.«abs» (by decide) ?_
    refine EVs.cons ?_
    refine EV.var lk_eq ?_
    refine EVs.nil ?_
    refine OVs.abs ?_
    refine EV.binop ?_
    refine EV.cint ?_
    refine EV.cint ?_
    refine OV2.pow_int (by decide) (by decide) (by decide) ?_
    refine OV2.mod_int (by decide) ?_
    have hr := Int.fmod_nonneg_of_pos (if x < 0 then -x else x) (b := (16 : Int) ^ (8 : Int).toNat) (by decide)
    generalize (if x < 0 then -x else x).fmod ((16 : Int) ^ (8 : Int).toNat) = r at hr ⊢
    have I := I.put (x := "rest") (v := .int r) (by decide)
    refine XV.cons ?_
    refine XV.whileB (fun n σ => ∃ F r, n + F.length = 8 ∧ 0 ≤ r ∧ FgI hp F σ ∧ at_ σ.loc "rest" = some (.int r)) (8 - F.length) ⟨F, r, by have := I.len; omega, hr, I, lk_eq⟩ ?_
    intro n σ₁ ⟨F₁, r₁, hn, hr₁, I₁, hrest⟩
    have hh := I₁.hp
    have hc1 : σ₁.hp[hp.length]? = some (.list (ivs F₁)) := by rw [hh]; exact ap1
    refine TV.cmp ?_
    refine EV.callB L.gLen Boot.«len» (by decide) ?_
    refine EVs.cons ?_
    refine EV.var I₁.fig ?_
    refine EVs.nil ?_
    refine OVs.len_list hc1 (by rw [ivs_len]; have := I₁.len; omega) ?_
    refine EV.cint ?_
    refine OV2.lt_int ⟨_, rfl, fun hlt => ?_, fun hlt => ?_⟩
    · have hlt : F₁.length < 8 := by have := of_decide_eq_true hlt; rw [ivs_len] at this; omega
      have h0 : 0 ≤ r₁.fmod 16 := Int.fmod_nonneg_of_pos _ (by decide)
      have h34 : r₁.fmod 16 < 16 := Int.fmod_lt_of_pos _ (by decide)
      obtain ⟨z, hz⟩ : ∃ z : Nat, r₁.fmod 16 = z := ⟨(r₁.fmod 16).toNat, by omega⟩
      refine XV.cons ?_
      refine XV.expr ?_
      refine EV.append ?_
      refine EV.var I₁.fig ⟨⟨_, _, rfl, hc1⟩, ?_⟩
      refine EVs.cons ?_
      refine EV.binop ?_
      refine EV.var hrest ?_
      refine EV.cint ?_
      refine OV2.mod_int (by decide) ?_
      rw [hz]
      refine EVs.nil ?_
      refine OVs.append hc1 (by rw [ivs_len]; omega) ?_
      have I₂ : FgI hp (F₁ ++ [z]) ⟨σ₁.loc, σ₁.hp.set hp.length (.list (ivs F₁ ++ [.int z]))⟩ :=
        ⟨I₁.fig, by simp; omega, fun y hy => by
          rcases List.mem_append.mp hy with hy | hy
          · exact I₁.lt y hy
          · rw [List.mem_singleton] at hy; subst hy; omega, by show List.set _ _ _ = _; rw [hh, as1]; simp [ivs]⟩
      refine XV.cons ?_
      refine XV.aug hrest ?_
      refine EV.cint ?_
      refine OV2.ifdiv_int (by decide) (PyProof.noPylong_of_log2 (by decide +kernel)) ?_
      have I₃ := I₂.put (x := "rest") (v := .int (r₁.fdiv 16)) (by decide)
      refine XV.cons ?_
      refine XV.ifB ?_
      refine TV.cmp ?_
      refine EV.var lk_eq ?_
      refine EV.cint ?_
      refine OV2.eq_int ⟨_, rfl, fun h => ?_, fun h => ?_⟩
      · exact XV.cons (XV.brk (XV.nil ⟨_, I₃⟩))
      · exact XV.nil (XV.nil ⟨n - 1, by omega, _, _, by simp; omega, Int.fdiv_nonneg hr₁ (by decide), I₃, lk_eq⟩)
    · exact XV.nil ⟨_, I₁⟩
  · intro σ ⟨F, I⟩
    have hh := I.hp
    refine XV.cons ?_
    refine XV.ret ?_
    refine EV.ifB ?_
    refine TV.cmp ?_
    refine EV.var I.fig ?_
    refine EV.list ?_
    refine EVs.nil ⟨(show (0 : Nat) ≤ 1000 by decide), ?_⟩
    have hn : (σ.hp ++ [O.list []])[σ.hp.length]? = some (.list []) := ap1
    refine OV2.ne_nil (vs := ivs F) (by rw [hh]; exact app_get ap1) hn ⟨_, rfl, fun h => ?_, fun h => ?_⟩
    · refine EV.var I.fig ?_
      refine ⟨F, _, [.list (ivs F), .list []], rfl, ?_, ?_, by omega, by have := I.len; omega, fun e => ?_, I.lt⟩
      · show σ.hp ++ [O.list []] = _
        rw [hh]; simp
      · show (σ.hp ++ [O.list []])[_]? = _
        rw [hh]; exact app_get ap1
      · rw [e] at h; cases h
    · refine EV.list ?_
      refine EVs.cons ?_
      refine EV.cint ?_
      refine EVs.cons ?_
      refine EV.cint ?_
      refine EVs.cons ?_
      refine EV.cint ?_
      refine EVs.cons ?_
      refine EV.cint ?_
      refine EVs.nil ⟨(show (4 : Nat) ≤ 1000 by decide), ?_⟩
      refine ⟨[0, 13, 1, 3], _, [.list (ivs F), .list [], .list (ivs [0, 13, 1, 3])], rfl, ?_, ap1, ?_, by decide, by decide, by decide⟩
      · show σ.hp ++ [O.list []] ++ [_] = _
        rw [hh]; simp; rfl
      · show hp.length ≤ (σ.hp ++ [O.list []]).length
        rw [hh]; simp
end
end Mine
namespace Mine
open PySem PySem.W PyProof.Rows PySem.SeqAt
structure WdsK (K : Frag) (aD : Addr) : Prop where
  gD : nsIn K mainGlobals "_law_words" = some (some (.ref aD))
  kD : keepIn K (.ref aD) = true
  fD : FnK K aD "_law_words" (stmt 5)
section
variable {c : Cx} {aD aE : Addr}
noncomputable abbrev signsN : List Nat := [110, 34, 92, 32, 10, 9, 13, 35, 12, 160, 39, 34]
theorem svs_last {W : List (List Nat)} {w u : List Nat} : (svs (W ++ [w])).set W.length (.str u) = svs (W ++ [u]) := by
  unfold svs
  rw [List.map_append, List.map_append, List.set_append_right _ _ (by simp)]; simp
theorem svs_snoc (W : List (List Nat)) (w : List Nat) : svs W ++ [.str w] = svs (W ++ [w]) := by simp [svs]
structure WdI (hp : List O) (fi m : Nat) (W : List (List Nat)) (u : List Nat) (σ : St) : Prop where
  fig : at_ σ.loc "figures" = some (.ref fi)
  signs : at_ σ.loc "signs" = some (.str signsN)
  words : at_ σ.loc "words" = some (.ref hp.length)
  hp : σ.hp = hp ++ [.list (svs (W ++ [u]))]
  cnt : W.length ≤ m
  ulen : u.length ≤ m
  wlen : ∀ w ∈ W, w.length ≤ m
theorem lawWords {hp : List O} {fi : Nat} {F : List Nat} (L : WdsK c.K aD) (ho : hp[fi]? = some (.list (ivs F))) (hF : F.length ≤ 8) (h16 : ∀ f ∈ F, f < 16) :
    FV c 2 (.top aD) [.ref fi] hp (fun v hp' => ∃ W, v = .ref hp.length ∧ hp' = hp ++ [.list (svs W)] ∧ W ≠ [] ∧ W.length ≤ 9 ∧ ∀ w ∈ W, w.length ≤ 8) := by
  refine FV.fn L.fD (ns := ["figures"]) (fun _ _ _ _ xs h => by obtain ⟨_, rfl⟩ := len1 h; rfl) rfl (by decide) (by decide +kernel) (by decide +kernel) fun Lo cd ρ₀ hρ => ?_
  refine XV.cons ?_
  refine XV.assign ?_
  refine EV.cstr (l := signsN) ?_
  refine XV.cons ?_
  refine XV.assign ?_
  refine EV.list ?_
  refine EVs.cons ?_
  refine EV.cstr (l := []) ?_
  refine EVs.nil ⟨(show (1 : Nat) ≤ 1000 by decide), ?_⟩
  refine XV.cons ?_
  refine XV.forS ?_
  refine EV.var rfl ⟨_, _, _, Src.list (vs := ivs F) (app_get ho), fun m σ => ∃ W u, WdI hp fi m W u σ, ⟨[], [], rfl, rfl, rfl, rfl, by simp, by simp, by simp⟩, ?_, ?_, ?_⟩
  · rintro m σ ⟨W, u, I⟩
    rw [I.hp]; exact app_get ho
  · intro ρ₁ hρ₁ m σ hm ⟨W, u, I⟩
    rw [ivs_len] at hm
    show OU1 _ _ _ _ ((ivs F).getD m .none) _ _
    rw [ivs_getD hm]
    have hf16 := h16 _ (List.getElem_mem hm)
    generalize F[m] = f at hf16
    refine OU1.name ?_
    have hI := I.hp
    have i1 := I.cnt
    have i2 := I.ulen
    have hat : σ.hp[hp.length]? = some (.list (svs (W ++ [u]))) := by rw [hI]; exact ap1
    refine XV.cons ?_
    refine XV.ifB ?_
    refine TV.cmp ?_
    refine EV.var lk_eq ?_
    refine EV.cint ?_
    refine OV2.lt_int ⟨_, rfl, fun h => ?_, fun h => ?_⟩
    · have h : f < 12 := by have := of_decide_eq_true h; omega
      obtain ⟨sg, hsg⟩ : ∃ sg, signsN[f]? = some sg := ⟨_, List.getElem?_eq_getElem h⟩
      refine XV.cons ?_
      refine XV.augsubO ?_
      refine EV.var (lk_ne I.words (by decide)) ?_
      refine EV.unary ?_
      refine EV.cint ?_
      refine OV1.neg_int ?_
      have e1 : ((-1 : Int) + ((svs (W ++ [u])).length : Nat)) = ((W.length : Nat) : Int) := by rw [svs_len, List.length_append, List.length_singleton]; omega
      refine OV2.getN (v := .str u) hat (by decide) (by rw [e1]; omega) (by
        rw [e1, Int.toNat_natCast]
        exact svs_get (by simp)) (by rw [svs_len]; simp; omega) ?_
      refine EV.sub ?_
      refine EV.var (lk_ne I.signs (by decide)) ?_
      refine EV.var lk_eq ?_
      refine OV2.itemS (n := sg) (by omega) (by rw [Int.toNat_natCast]; exact hsg) (by decide) ?_
      refine OV2.iadd_str (by rw [sizeLine_eq]; simp; omega) ?_
      refine SetI.listN hat (by decide) (by rw [e1]; omega) (by rw [svs_len]; simp; omega) ?_
      rw [e1, Int.toNat_natCast, svs_last]
      refine XV.nil ?_
      refine XV.nil ⟨W, u ++ [sg], ⟨lk_ne I.fig (by decide), lk_ne I.signs (by decide), lk_ne I.words (by decide), ?_, by omega, by simp; omega, fun w hw => by have := I.wlen w hw; omega⟩⟩
      show σ.hp.set _ _ = _
      rw [hI, as1]
    · refine XV.cons ?_
      refine XV.expr ?_
      refine EV.append ?_
      refine EV.var (lk_ne I.words (by decide)) ⟨⟨_, _, rfl, hat⟩, ?_⟩
      refine EVs.cons ?_
      refine EV.cstr (l := []) ?_
      refine EVs.nil ?_
      refine OVs.append hat (by rw [svs_len]; simp; omega) ?_
      rw [svs_snoc]
      refine XV.nil ?_
      refine XV.nil ⟨W ++ [u], [], ⟨lk_ne I.fig (by decide), lk_ne I.signs (by decide), lk_ne I.words (by decide), ?_, by simp; omega, by simp, fun w hw => ?_⟩⟩
      · show σ.hp.set _ _ = _
        rw [hI, as1]
      · rcases List.mem_append.mp hw with hw | hw
        · have := I.wlen w hw; omega
        · rw [List.mem_singleton.mp hw]; omega
  · rintro σ ⟨W, u, I⟩
    have i1 := I.cnt
    have i2 := I.ulen
    rw [ivs_len] at i1 i2
    refine XV.cons ?_
    refine XV.ret ?_
    refine EV.var I.words ⟨W ++ [u], rfl, I.hp, by simp, by simp; omega, fun w hw => ?_⟩
    rcases List.mem_append.mp hw with hw | hw
    · have := I.wlen w hw; rw [ivs_len] at this; omega
    · rw [List.mem_singleton.mp hw]; omega
structure PcsK (K : Frag) (aE : Addr) : Prop where
  gE : nsIn K mainGlobals "_law_pieces" = some (some (.ref aE))
  kE : keepIn K (.ref aE) = true
  fE : FnK K aE "_law_pieces" (stmt 7)
  gLen : nsIn K mainGlobals "len" = some none
structure PcI (hp : List O) (fi : Nat) (T : List Nat) (n : Nat) (ps : List (List Nat)) (p : Nat) (σ : St) : Prop where
  text : at_ σ.loc "text" = some (.str T)
  fig : at_ σ.loc "figures" = some (.ref fi)
  pieces : at_ σ.loc "pieces" = some (.ref hp.length)
  place : at_ σ.loc "place" = some (.int (p : Nat))
  hp : σ.hp = hp ++ [.list (svs ps)]
  flat : ps.flatten = T.take p
  bnd : 3 * ps.length ≤ p
  psl : ps.length ≤ T.length
  meas : n = T.length - p
  ok : ∀ x ∈ ps, x ≠ [] ∧ x.length ≤ 7
theorem lawPieces {hp : List O} {fi : Nat} {F T : List Nat} (L : PcsK c.K aE) (ho : hp[fi]? = some (.list (ivs F))) (hF : F.length ≤ 8) (hFn : F ≠ []) (h16 : ∀ f ∈ F, f < 16) (hT : T.length ≤ 1000) :
    FV c 2 (.top aE) [.str T, .ref fi] hp (fun v hp' => ∃ ps, v = .ref hp.length ∧ hp' = hp ++ [.list (svs ps)] ∧ ps.flatten = T ∧ 3 * ps.length ≤ T.length + 7 ∧ ∀ x ∈ ps, x ≠ [] ∧ x.length ≤ 7) := by
  refine FV.fn L.fE (ns := ["text", "figures"]) (fun _ _ _ _ xs h => by obtain ⟨_, _, rfl⟩ := len2 h; rfl) rfl (by decide) (by decide +kernel) (by decide +kernel) fun Lo cd ρ₀ hρ => ?_
  refine XV.cons ?_
  refine XV.assign ?_
  refine EV.list ?_
  refine EVs.nil ⟨(show (0 : Nat) ≤ 1000 by decide), ?_⟩
  refine XV.cons ?_
  refine XV.assign ?_
  refine EV.cint ?_
  refine XV.cons ?_
  have hFl : 0 < F.length := List.length_pos_iff.mpr hFn
  refine XV.whileB (fun n σ => ∃ ps p, PcI hp fi T n ps p σ ∧ 3 * ps.length ≤ T.length + 7) (T.length) ⟨[], 0, ⟨rfl, rfl, rfl, rfl, rfl, by simp, by simp, by simp, by simp, by simp⟩, by simp⟩ ?_
  rintro n σ ⟨ps, p, I, hb7⟩
  have hI := I.hp
  have hat : σ.hp[hp.length]? = some (.list (svs ps)) := by rw [hI]; exact ap1
  have hfi : σ.hp[fi]? = some (.list (ivs F)) := by rw [hI]; exact app_get ho
  have j1 := I.psl
  have j2 := I.bnd
  refine TV.cmp ?_
  refine EV.var I.place ?_
  refine EV.callB L.gLen Boot.«len» (by decide) ?_
  refine EVs.cons ?_
  refine EV.var I.text ?_
  refine EVs.nil ?_
  refine OVs.len_str (by omega) ?_
  refine OV2.lt_int ⟨_, rfl, fun h => ?_, fun h => ?_⟩
  · have h : p < T.length := by have := of_decide_eq_true h; omega
    obtain ⟨f, hf⟩ : ∃ f, F[ps.length % F.length]? = some f := ⟨_, List.getElem?_eq_getElem (Nat.mod_lt _ hFl)⟩
    have hf16 := h16 f (List.mem_of_getElem? hf)
    refine XV.cons ?_
    refine XV.assign ?_
    refine EV.binop ?_
    refine EV.cint ?_
    refine EV.binop ?_
    refine EV.sub ?_
    refine EV.var I.fig ?_
    refine EV.binop ?_
    refine EV.callB L.gLen Boot.«len» (by decide) ?_
    refine EVs.cons ?_
    refine EV.var I.pieces ?_
    refine EVs.nil ?_
    refine OVs.len_list hat (by rw [svs_len]; omega) ?_
    rw [svs_len]
    refine EV.callB L.gLen Boot.«len» (by decide) ?_
    refine EVs.cons ?_
    refine EV.var I.fig ?_
    refine EVs.nil ?_
    refine OVs.len_list hfi (by rw [ivs_len]; omega) ?_
    rw [ivs_len]
    refine OV2.mod_int (by omega) ?_
    have hm1 : (ps.length : Int).fmod (F.length : Nat) = ((ps.length % F.length : Nat) : Int) := by rw [Int.fmod_eq_emod_of_nonneg _ (by omega)]; rfl
    rw [hm1]
    refine OV2.item (v := .int (f : Nat)) hfi (by omega) (by rw [Int.toNat_natCast]; exact ivs_get hf) (by rw [ivs_len]; omega) ?_
    refine EV.cint ?_
    refine OV2.mod_int (by decide) ?_
    have hm2 : (f : Int).fmod 5 = ((f % 5 : Nat) : Int) := by rw [Int.fmod_eq_emod_of_nonneg _ (by decide)]; rfl
    rw [hm2]
    refine OV2.add_int ?_
    obtain ⟨z, hz⟩ : ∃ z, z = 3 + f % 5 := ⟨_, rfl⟩
    have hz7 : 3 ≤ z ∧ z ≤ 7 := by omega
    rw [show (3 : Int) + ((f % 5 : Nat) : Int) = ((z : Nat) : Int) by omega]
    refine XV.cons ?_
    refine XV.expr ?_
    refine EV.append ?_
    refine EV.var (lk_ne I.pieces (by decide)) ⟨⟨_, _, rfl, hat⟩, ?_⟩
    refine EVs.cons ?_
    refine EV.slice (l := T) ?_
    refine EV.var (lk_ne I.text (by decide)) ⟨rfl, by omega, ?_⟩
    refine EV.var (lk_ne I.place (by decide)) ⟨p, rfl, ?_⟩
    refine EV.binop ?_
    refine EV.var (lk_ne I.place (by decide)) ?_
    refine EV.var lk_eq ?_
    refine OV2.add_int ⟨p + z, rfl, ?_⟩
    have hcut : cut T (some p) (some (p + z)) = (T.drop p).take z := by
      show (T.drop (min p T.length)).take (min (p + z) T.length - min p T.length) = _
      rw [Nat.min_eq_left (Nat.le_of_lt h)]
      rcases Nat.le_total (p + z) T.length with q | q
      · rw [Nat.min_eq_left q, Nat.add_sub_cancel_left]
      · rw [Nat.min_eq_right q, List.take_of_length_le (by rw [List.length_drop]; omega), List.take_of_length_le (by rw [List.length_drop]; omega)]
    refine EVs.nil ?_
    rw [hcut]
    refine OVs.append hat (by rw [svs_len]; omega) ?_
    rw [svs_snoc]
    refine XV.cons ?_
    refine XV.aug (lk_ne I.place (by decide)) ?_
    refine EV.var lk_eq ?_
    refine OV2.iadd_int ?_
    refine XV.nil ?_
    have hpl : ((T.drop p).take z).length ≤ 7 := by rw [List.length_take]; omega
    have hpn : (T.drop p).take z ≠ [] := by
      intro q
      have := congrArg List.length q
      rw [List.length_take, List.length_drop] at this
      simp at this; omega
    refine ⟨T.length - (p + z), by have := I.meas; omega, ps ++ [(T.drop p).take z], p + z, ⟨lk_ne (lk_ne I.text (by decide)) (by decide), lk_ne (lk_ne I.fig (by decide)) (by decide), lk_ne (lk_ne I.pieces (by decide)) (by decide), ?_, ?_, ?_, ?_, ?_, rfl, ?_⟩, ?_⟩
    · rw [show ((p + z : Nat) : Int) = (p : Int) + (z : Nat) by omega]; exact lk_eq
    · show σ.hp.set _ _ = _
      rw [hI, as1]
    · rw [List.flatten_append, I.flat, List.take_add]; simp
    · rw [List.length_append]; simp; omega
    · rw [List.length_append]; simp; omega
    · intro x hx
      rcases List.mem_append.mp hx with hx | hx
      · exact I.ok x hx
      · rw [List.mem_singleton.mp hx]; exact ⟨hpn, hpl⟩
    · rw [List.length_append]; simp; omega
  · have h : T.length ≤ p := by have := of_decide_eq_false h; omega
    refine XV.cons ?_
    refine XV.ret ?_
    refine EV.var I.pieces ⟨ps, rfl, hI, ?_, hb7, I.ok⟩
    rw [I.flat, List.take_of_length_le h]
end
end Mine
namespace Mine
open PySem PySem.W PySem.Calls PyProof.Rows PySem.SeqAt
section
variable {prog : Program} {w : World} {A : Around} {E : Value → Shared → Prop} {s : Shared}
noncomputable abbrev ZipO (h : Heap) (z TI TO T : Addr) (f : Bool) : Prop :=
  h.get? z = some { cls := .type "zip", dict := none, data := .fields #[rawInt T, .bool f, .bool false, .ref TI, .ref TO], slots := #[] }
theorem zipo_free {z TI TO T : Addr} {f : Bool} {oT : Obj} {Q : Bool → Shared → Prop} (hz : ZipO s.heap z TI TO T f) (hT : s.heap.get? T = some oT)
    (hQ : ∀ h', ZipO h' z TI TO T true → Heap.SameBut z s.heap h' → Q false { s with heap := h' }) : wpAny (model prog w) A (Builtin.SmallTypes.ownedTupleIsFree (.ref z)) Q E s := by
  unfold Builtin.SmallTypes.ownedTupleIsFree
  refine wpAny_bind (wpAny_field hz rfl (x := rawInt T) rfl ?_)
  show wpAny _ _ (loadIfAlive ((T : Int).toNat) >>= _) _ _ _
  rw [Int.toNat_natCast]
  refine wpAny_bind (kdx_alive hT ?_)
  simp only [Option.isNone_some, Bool.false_eq_true, if_false]
  refine wpAny_bind (wpAny_field hz rfl (x := .bool f) rfl ?_)
  cases f with
  | true =>
    rw [if_neg (show ¬ ((Value.bool true != Value.bool true) = true) from Bool.false_ne_true)]
    exact wpAny_pure (hQ _ hz (Heap.SameBut.refl _ _))
  | false =>
    rw [if_pos (show (Value.bool false != Value.bool true) = true from rfl)]
    refine wpAny_bind (wpAny_setField_rec hz (by simp) fun h₃ he₃ hs₃ => ?_)
    exact wpAny_pure (hQ h₃ he₃ hs₃)
structure ZipSt (z TI TO i1 i2 l1 l2 T : Addr) (k : Nat) (xs ys : Array Value) (h : Heap) : Prop where
  z : ∃ f, ZipO h z TI TO T f
  out : ∃ o, h.get? T = some o
  ti : IsPair h TI (.ref i1) (.ref i2)
  it1 : h.IsListIter i1 l1 k
  it2 : h.IsListIter i2 l2 k
  ls1 : h.IsList l1 xs
  ls2 : h.IsList l2 ys
theorem zipo_item {z TI TO i1 i2 l1 l2 T : Addr} {k : Nat} {xs ys : Array Value} {x y : Value} {Q : Value → Shared → Prop} (D : ZipApart z TI TO i1 i2 l1 l2) (hTz : T ≠ z) (hT1 : T ≠ i1) (hT2 : T ≠ i2)
    (S : ZipSt z TI TO i1 i2 l1 l2 T k xs ys s.heap) (hx : xs[k]? = some x) (hy : ys[k]? = some y)
    (hQ : ∀ h', ZipSt z TI TO i1 i2 l1 l2 T (k + 1) xs ys h' → IsPair h' s.heap.objs.size x y → h'.objs.size = s.heap.objs.size + 1 →
      (∀ c o, c ≠ z → c ≠ i1 → c ≠ i2 → s.heap.get? c = some o → h'.get? c = some o) → Q (.ref s.heap.objs.size) { s with heap := h' }) :
    wpAny (model prog w) A (Builtin.«zip.__next__» ⟨[.ref z], []⟩) (fun fin s' => ∃ v, fin = .done (.ret v) ∧ Q v s') E s := by
  obtain ⟨⟨f, hz⟩, ⟨oT, hT⟩, hTI, h1, h2, hl1, hl2⟩ := S
  show wpAny _ _ (field (.ref z) 2 >>= _) _ _ _
  refine wpAny_bind (wpAny_field hz rfl (x := .bool false) rfl ?_)
  show wpAny _ _ (field (.ref z) 3 >>= _) _ _ _
  refine wpAny_bind (wpAny_field hz rfl (x := .ref TI) rfl ?_)
  refine wpAny_bind (wpAny_seqItems hTI rfl ?_)
  show wpAny _ _ (Builtin.SmallTypes.ownedTupleIsFree (.ref z) >>= _) _ _ _
  refine wpAny_bind (zipo_free hz hT fun h₁ hz₁ hs₁ => ?_)
  simp only [Bool.false_eq_true, if_false, List.forIn_toArray, List.forIn_cons, List.forIn_nil]
  refine wpAny_bind (wpAny_bind (wpAny_bind (wpAny_holding ?_)))
  show wpAny _ _ (Builtin.SmallTypes.nextOf (.ref i1) >>= _) _ _ _
  refine wpAny_bind (wpAny_nextOf_list_item (h1.extBut hs₁.extBut D.i1z) (hl1.extBut hs₁.extBut D.l1z) hx fun h₂ h1₂ hs₂ => wpAny_pure ?_)
  refine wpAny_pure ?_
  refine wpAny_bind (wpAny_bind (wpAny_holding ?_))
  show wpAny _ _ (Builtin.SmallTypes.nextOf (.ref i2) >>= _) _ _ _
  refine wpAny_bind (wpAny_nextOf_list_item ((h2.extBut hs₁.extBut D.i2z).extBut hs₂.extBut D.i12.symm)
    ((hl2.extBut hs₁.extBut D.l2z).extBut hs₂.extBut D.l2i1) hy fun h₃ h2₃ hs₃ => wpAny_pure ?_)
  refine wpAny_pure (wpAny_pure ?_)
  refine wpAny_bind (wpAny_newTuple ?_ (by show (2 : Nat) ≤ sizeLine; rw [sizeLine_eq]; decide))
  have hsz : h₃.objs.size = s.heap.objs.size := by rw [hs₃.1, hs₂.1, hs₁.1]
  have hk : ∀ c o, c ≠ i1 → c ≠ i2 → h₁.get? c = some o → h₃.get? c = some o := fun c o c1 c2 e => hs₃.extBut _ _ c2 (hs₂.extBut _ _ c1 e)
  have hk₃ : ∀ c o, c ≠ z → c ≠ i1 → c ≠ i2 → s.heap.get? c = some o → h₃.get? c = some o := fun c o c0 c1 c2 e => hk c o c1 c2 (hs₁.extBut _ _ c0 e)
  have up : ∀ c o, h₃.get? c = some o → (h₃.push { cls := .type "tuple", data := .seq #[x, y] }).get? c = some o := fun c o e => Heap.get?_push_of_some _ e
  refine wpAny_pure ⟨_, rfl, ?_⟩
  have hnew : (h₃.push { cls := .type "tuple", data := .seq #[x, y] }).get? s.heap.objs.size = some { cls := .type "tuple", data := .seq #[x, y] } := by rw [← hsz]; exact Heap.get?_push_size _ rfl
  show Q (.ref h₃.objs.size) _
  rw [hsz]
  refine hQ _ ⟨⟨true, up _ _ (hk _ _ D.i1z.symm D.i2z.symm hz₁)⟩, ⟨oT, up _ _ (hk₃ _ _ hTz hT1 hT2 hT)⟩, up _ _ (hk₃ _ _ D.TIz D.TIi1 D.TIi2 hTI), ?_, ?_, hl1.at fun o e => up _ _ (hk₃ _ _ D.l1z D.l1i1 D.l1i2 e), hl2.at fun o e => up _ _ (hk₃ _ _ D.l2z D.l2i1 D.l2i2 e)⟩ hnew (by rw [Heap.size_push, hsz]) fun c o c0 c1 c2 e => up _ _ (hk₃ _ _ c0 c1 c2 e)
  · exact (h1₂.extBut hs₃.extBut D.i12).at fun o e => up _ _ e
  · exact h2₃.at fun o e => up _ _ e
theorem zipo_end {z TI TO i1 i2 l1 l2 T : Addr} {k : Nat} {xs ys : Array Value} {Q : Fin → Shared → Prop} (hh : A.handled = none) (D : ZipApart z TI TO i1 i2 l1 l2)
    (S : ZipSt z TI TO i1 i2 l1 l2 T k xs ys s.heap) (hx : xs[k]? = none)
    (hE : ∀ h' e, (∀ c o, c ≠ z → c ≠ i1 → c ≠ i2 → s.heap.get? c = some o → h'.get? c = some o) → (∃ o, h'.get? e = some o ∧ o.cls = .type "StopIteration") → E (.ref e) { s with heap := h' }) :
    wpAny (model prog w) A (Builtin.«zip.__next__» ⟨[.ref z], []⟩) Q E s := by
  obtain ⟨⟨f, hz⟩, ⟨oT, hT⟩, hTI, h1, h2, hl1, hl2⟩ := S
  show wpAny _ _ (field (.ref z) 2 >>= _) _ _ _
  refine wpAny_bind (wpAny_field hz rfl (x := .bool false) rfl ?_)
  show wpAny _ _ (field (.ref z) 3 >>= _) _ _ _
  refine wpAny_bind (wpAny_field hz rfl (x := .ref TI) rfl ?_)
  refine wpAny_bind (wpAny_seqItems hTI rfl ?_)
  show wpAny _ _ (Builtin.SmallTypes.ownedTupleIsFree (.ref z) >>= _) _ _ _
  refine wpAny_bind (zipo_free hz hT fun h₁ hz₁ hs₁ => ?_)
  simp only [Bool.false_eq_true, if_false, List.forIn_toArray, List.forIn_cons, List.forIn_nil]
  refine wpAny_bind (wpAny_bind (wpAny_bind (wpAny_holding ?_)))
  show wpAny _ _ (Builtin.SmallTypes.nextOf (.ref i1) >>= _) _ _ _
  refine wpAny_bind (wpAny_nextOf_list_end hh (h1.extBut hs₁.extBut D.i1z) (hl1.extBut hs₁.extBut D.l1z) hx fun h₂ e hs₂ he => ?_)
  exact hE h₂ e (fun c o c0 c1 c2 x => hs₂ _ _ c1 (hs₁.extBut _ _ c0 x)) he
theorem zipo_next {z TI TO i1 i2 l1 l2 T : Addr} {k : Nat} {xs ys : Array Value} {x y : Value} {Q : Option Value → Shared → Prop} (D : ZipApart z TI TO i1 i2 l1 l2) (hTz : T ≠ z) (hT1 : T ≠ i1) (hT2 : T ≠ i2)
    (S : ZipSt z TI TO i1 i2 l1 l2 T k xs ys s.heap) (hx : xs[k]? = some x) (hy : ys[k]? = some y)
    (hQ : ∀ h', ZipSt z TI TO i1 i2 l1 l2 T (k + 1) xs ys h' → IsPair h' s.heap.objs.size x y → h'.objs.size = s.heap.objs.size + 1 →
      (∀ c o, c ≠ z → c ≠ i1 → c ≠ i2 → s.heap.get? c = some o → h'.get? c = some o) → Q (some (.ref s.heap.objs.size)) { s with heap := h' }) :
    wpAny (model prog w) A (pyNext (.ref z)) Q E s := by
  obtain ⟨f, hz⟩ := S.z
  have hT : s.TypeIs (.ref z) "zip" := ⟨_, hz, rfl⟩
  unfold pyNext
  exact wpAny_bind (wpAny_attempt (wpAny_callSpecial?_slot (name := Str.ofString "__next__") hT PySem.F.slot_zip_next
    (wpAny_call_entry PySem.F.slot_zip_next hT PySem.F.entry_zip_next
      (zipo_item D hTz hT1 hT2 S hx hy fun h' a1 a2 a3 a4 => wpAny_pure (hQ h' a1 a2 a3 a4)) (PySem.F.args_zip_next_1 _))))
theorem zipo_done {z TI TO i1 i2 l1 l2 T : Addr} {k : Nat} {xs ys : Array Value} {Q : Option Value → Shared → Prop} (hh : A.handled = none) (D : ZipApart z TI TO i1 i2 l1 l2)
    (S : ZipSt z TI TO i1 i2 l1 l2 T k xs ys s.heap) (hx : xs[k]? = none)
    (hQ : ∀ h', (∀ c o, c ≠ z → c ≠ i1 → c ≠ i2 → s.heap.get? c = some o → h'.get? c = some o) → Q none { s with heap := h' }) : wpAny (model prog w) A (pyNext (.ref z)) Q E s := by
  obtain ⟨f, hz⟩ := S.z
  have hT : s.TypeIs (.ref z) "zip" := ⟨_, hz, rfl⟩
  unfold pyNext
  refine wpAny_bind (wpAny_attempt (wpAny_callSpecial?_slot (name := Str.ofString "__next__") hT PySem.F.slot_zip_next
    (wpAny_call_entry PySem.F.slot_zip_next hT PySem.F.entry_zip_next (zipo_end hh D S hx fun h' e hk he => ?_) (PySem.F.args_zip_next_1 _))))
  obtain ⟨o, ho, hc⟩ := he
  refine wpAny_bind (wpAny_isInstance (T := "StopIteration") (b := true) ⟨o, ho, hc⟩ isSubtype_stop ?_)
  exact wpAny_pure (hQ _ hk)
theorem ZipSt.keep {z TI TO i1 i2 l1 l2 T : Addr} {k : Nat} {xs ys : Array Value} {h h' : Heap} (S : ZipSt z TI TO i1 i2 l1 l2 T k xs ys h) {X : Addr} (hk : ∀ b o, b ≠ X → h.get? b = some o → h'.get? b = some o)
    (n1 : z ≠ X) (n2 : T ≠ X) (n3 : TI ≠ X) (n4 : i1 ≠ X) (n5 : i2 ≠ X) (n6 : l1 ≠ X) (n7 : l2 ≠ X) : ZipSt z TI TO i1 i2 l1 l2 T k xs ys h' := by
  obtain ⟨⟨f, hz⟩, ⟨oT, hT⟩, hTI, h1, h2, hl1, hl2⟩ := S
  exact ⟨⟨f, hk _ _ n1 hz⟩, ⟨oT, hk _ _ n2 hT⟩, hk _ _ n3 hTI, h1.at fun o e => hk _ o n4 e, h2.at fun o e => hk _ o n5 e, hl1.at fun o e => hk _ o n6 e, hl2.at fun o e => hk _ o n7 e⟩
structure ZG (xs ys : Array Value) (S : Addr) (h : Heap) (as : List Addr) : Prop where
  above : ∀ a ∈ as, S < a
  pairs : ∀ (j : Nat) (a : Addr), as[j]? = some a → ∃ x y, xs[j]? = some x ∧ ys[j]? = some y ∧ IsPair h a x y
theorem ZG.snoc {xs ys : Array Value} {S a : Addr} {h h' : Heap} {as : List Addr} {x y : Value} (g : ZG xs ys S h as) (hk : ∀ b o, S < b → h.get? b = some o → h'.get? b = some o) (ha : S < a) (hx : xs[as.length]? = some x) (hy : ys[as.length]? = some y) (hp : IsPair h' a x y) : ZG xs ys S h' (as ++ [a]) := by
  refine ⟨fun b hb => ?_, fun j b hj => ?_⟩
  · rcases List.mem_append.mp hb with hb | hb
    · exact g.above b hb
    · rw [List.mem_singleton.mp hb]; exact ha
  · rcases Nat.lt_trichotomy j as.length with h1 | h1 | h1
    · rw [List.getElem?_append_left h1] at hj
      obtain ⟨x', y', e1, e2, e3⟩ := g.pairs j b hj
      exact ⟨x', y', e1, e2, hk _ _ (g.above b (List.mem_of_getElem? hj)) e3⟩
    · subst h1
      have hb : a = b := by simpa using hj
      subst hb
      exact ⟨x, y, hx, hy, hp⟩
    · have : (as ++ [a])[j]? = none := List.getElem?_eq_none (by simp; omega)
      rw [this] at hj; cases hj
section
variable {R : Result → Shared → Prop} {N l1 l2 : Nat} {xs ys : Array Value} {h₁ : Heap}
theorem nne {a b : Nat} (h : (a : Nat) ≠ b) : @Ne Addr a b := h
theorem loNe {N b : Nat} (i : Nat) (h : b < N) : @Ne Addr b (N + i) := Nat.ne_of_lt (Nat.lt_of_lt_of_le h (Nat.le_add_right N i))
theorem adNe {N : Nat} (i j : Nat) (h : i ≠ j) : @Ne Addr (N + i) (N + j) := fun e => h (Nat.add_left_cancel e)
theorem gtNe {N T : Nat} (i : Nat) (h : N + 5 < T) (hi : i ≤ 5) : @Ne Addr T (N + i) := fun e => Nat.lt_irrefl _ (Nat.lt_of_le_of_lt (Nat.add_le_add_left hi N) (show N + 5 < N + i from e ▸ h))
theorem zipLoop (hh : A.handled = none) (D : ZipApart (N + 4) (N + 2) (N + 3) N (N + 1) l1 l2) (hl1 : l1 < N) (hl2 : l2 < N) (hsz : xs.size = ys.size) (hn : xs.size ≤ sizeLine) (res : Value)
    (hR : ∀ h' tk acc c as, (∀ (b : Nat) o, b < N → h₁.get? b = some o → h'.get? b = some o) → h'.get? (N + 5) = some { cls := .type "list", dict := none, data := .seq acc c, slots := #[] } → as.length = xs.size → ZG xs ys (N + 5) h' as →
      acc.toList = as.map Value.ref → R (.ok (.ret res)) { s with heap := h', toks := tk }) :
    ∀ (k i : Nat) (h : Heap) (tk c : Nat) (acc : Array Value) (as : List Addr) (T : Nat), xs.size - i = k → i ≤ xs.size → ZipSt (N + 4) (N + 2) (N + 3) N (N + 1) l1 l2 T i xs ys h → N + 5 < T → (∀ (b : Nat) o, b < N → h₁.get? b = some o → h.get? b = some o) →
      h.get? (N + 5) = some { cls := .type "list", dict := none, data := .seq acc c, slots := #[] } → acc.toList = as.map Value.ref → as.length = i → ZG xs ys (N + 5) h as →
      codeAny (model prog w) A (.builtin "list.extend.loop" ⟨[.ref (N + 5), .ref (N + 4), res], []⟩) R { s with heap := h, toks := tk } := by
  intro k
  induction k with
  | zero =>
    intro i h tk c acc as T hk hi hst hT hkeep hS hacc hal hG
    have hin : i = xs.size := by omega
    refine codeAny_builtin PySem.F.entry_extend_loop ?_
    rw [Around.under_plainId PySem.F.plain_extend_loop _]
    show wpAny _ A.in1 (pyNext (.ref (N + 4)) >>= _) _ _ _
    refine wpAny_bind (zipo_done (s := { s with heap := h, toks := tk }) (A := A.in1) hh D hst (Array.getElem?_eq_none (by omega)) fun h' he => ?_)
    refine wpAny_pure (hR h' tk acc c as (fun (b : Nat) o (h1 : (b : Nat) < N) e => he b o (loNe 4 h1) (loNe 0 h1) (loNe 1 h1) (hkeep b o h1 e)) (he _ _ (adNe 5 4 (by decide)) (adNe 5 0 (by decide)) (adNe 5 1 (by decide)) hS) (by omega) ⟨hG.above, fun j a hj => ?_⟩ hacc)
    obtain ⟨x, y, e1, e2, e3⟩ := hG.pairs j a hj
    have q := hG.above a (List.mem_of_getElem? hj)
    have q1 : ∀ m : Nat, m ≤ N + 5 → a ≠ m := fun m hm e => by subst e; exact Nat.lt_irrefl _ (Nat.lt_of_lt_of_le q hm)
    exact ⟨x, y, e1, e2, he a _ (q1 (N + 4) (Nat.le_succ _)) (q1 N (Nat.le_add_right N 5)) (q1 (N + 1) (Nat.add_le_add_left (by decide) N)) e3⟩
  | succ k ih =>
    intro i h tk c acc as T hk hi hst hT hkeep hS hacc hal hG
    have hlt : i < xs.size := by omega
    have hx : xs[i]? = some xs[i] := Array.getElem?_eq_getElem hlt
    have hy : ys[i]? = some ys[i] := Array.getElem?_eq_getElem (by omega)
    have hasz : acc.size = i := by rw [← Array.length_toList, hacc, List.length_map, hal]
    refine codeAny_builtin PySem.F.entry_extend_loop ?_
    rw [Around.under_plainId PySem.F.plain_extend_loop _]
    show wpAny _ A.in1 (pyNext (.ref (N + 4)) >>= _) _ _ _
    refine wpAny_bind (zipo_next (s := { s with heap := h, toks := tk }) D (gtNe 4 hT (by decide)) (gtNe 0 hT (by decide)) (gtNe 1 hT (by decide)) hst hx hy fun h' hst' hp hz hkp => ?_)
    dsimp only at hp hz hkp ⊢
    have hS' := hkp (N + 5) _ (adNe 5 4 (by decide)) (adNe 5 0 (by decide)) (adNe 5 1 (by decide)) hS
    have hSl : (N + 5 : Nat) < h.objs.size := Heap.lt_size hS
    have up : ∀ b o, b ≠ N + 5 → h'.get? b = some o → (h'.update (N + 5) (Obj.mapSeq (·.push (Value.ref h.objs.size)))).get? b = some o := fun b o hb e => (Heap.get?_update_other _ _ (Ne.symm hb)).trans e
    show wpAny _ A.in1 (updateSeq (N + 5) (·.push (Value.ref h.objs.size)) >>= _) _ _ _
    refine wpAny_bind ?_
    refine wpAny_updateSeq hS' rfl (wpAny_pure ⟨plainId_quiet PySem.F.plain_extend_loop _, ih (i + 1) _ tk _ (acc.push (Value.ref h.objs.size)) (as ++ [h.objs.size]) T (by omega) hlt (hst'.keep up (adNe 4 5 (by decide)) (gtNe 5 hT (by decide)) (adNe 2 5 (by decide)) (adNe 0 5 (by decide)) (adNe 1 5 (by decide)) (loNe 5 hl1) (loNe 5 hl2)) hT
      (fun (b : Nat) o (h1 : (b : Nat) < N) e => up b o (loNe 5 h1) (hkp b o (loNe 4 h1) (loNe 0 h1) (loNe 1 h1) (hkeep b o h1 e))) (Heap.get?_update_self _ hS' rfl) (by rw [Array.toList_push, hacc, List.map_append]; rfl) (by rw [List.length_append, hal]; rfl)
      (hG.snoc (fun (b : Nat) o (h1 : (N + 5 : Nat) < b) e => up b o (gtNe 5 h1 (by decide)) (hkp b o (gtNe 4 h1 (by decide)) (gtNe 0 h1 (by decide)) (gtNe 1 h1 (by decide)) e)) hSl (by rw [hal]; exact hx) (by rw [hal]; exact hy) (up _ _ (gtNe 5 hSl (by decide)) hp))⟩) (by rw [hasz]; omega) (by show (acc.push (Value.ref h.objs.size)).size ≤ sizeLine + 1; rw [Array.size_push, hasz]; omega)
theorem zip_no_len : typeLookup (.type "zip") "__len__" = pure none := by rw [typeLookup_type, builtinLookup_eq_fast]; kernel_rfl
theorem zip_no_hint : typeLookup (.type "zip") "__length_hint__" = pure none := by rw [typeLookup_type, builtinLookup_eq_fast]; kernel_rfl
theorem zipExtend (hh : A.handled = none) (hz : IsZip s.heap (N + 4) (N + 2) (N + 3) .none) (hTI : IsPair s.heap (N + 2) (.ref N) (.ref (N + 1))) (hTO : IsPair s.heap (N + 3) .none .none) (h1 : s.heap.IsListIter N l1 0) (h2 : s.heap.IsListIter (N + 1) l2 0)
    (hls1 : s.heap.IsList l1 xs) (hls2 : s.heap.IsList l2 ys) (D : ZipApart (N + 4) (N + 2) (N + 3) N (N + 1) l1 l2) (hl1 : l1 < N) (hl2 : l2 < N) (hsz : xs.size = ys.size) (hn : xs.size ≤ sizeLine) (h0 : 0 < xs.size) (res : Value) (c₀ : Nat)
    (hS : s.heap.get? (N + 5) = some { cls := .type "list", data := .seq #[] c₀ })
    (hR : ∀ h' tk acc c as, (∀ (b : Nat) o, b < N → s.heap.get? b = some o → h'.get? b = some o) → h'.get? (N + 5) = some { cls := .type "list", dict := none, data := .seq acc c, slots := #[] } → as.length = xs.size → ZG xs ys (N + 5) h' as →
      acc.toList = as.map Value.ref → R (.ok (.ret res)) { s with heap := h', toks := tk }) :
    wpAny (model prog w) A.in1 (Builtin.List.listExtendWith (.ref (N + 5)) (.ref (N + 4)) res)
      (fun fin s' => match fin with | .done f => R (.ok f) s' | .again c' => c'.quiet = true ∧ codeAny (model prog w) A c' R s') (fun e s' => R (.error e) s') s := by
  have hT : s.TypeIs (.ref (N + 4)) "zip" := ⟨_, hz, rfl⟩
  unfold Builtin.List.listExtendWith
  refine wpAny_bind (wpAny_typeOf (T := "zip") hT ?_)
  have q1 : Builtin.List.listSameRef (.ref (N + 5)) (.ref (N + 4)) = false := by simp [Builtin.List.listSameRef]
  have q2 : (Value.type "zip" == Value.type "list") = false := by decide
  have q3 : (Value.type "zip" == Value.type "tuple") = false := by decide
  simp only [q1, q2, q3, Bool.or_false, Bool.false_eq_true, if_false]
  refine wpAny_bind (wpAny_pyIter_zip hz ?_)
  refine wpAny_bind (wpAny_holding ?_)
  unfold Builtin.List.listLengthHint
  refine wpAny_bind (wpAny_specialOf hT zip_no_len ?_)
  show wpAny _ A.in1 (specialOf (Value.ref (N + 4)) (Str.ofString "__length_hint__") >>= _) _ _ _
  refine wpAny_bind (wpAny_specialOf hT zip_no_hint ?_)
  refine wpAny_pure ?_
  show wpAny _ A.in1 (rule "list.extend.makes-room" >>= fun _ => Builtin.List.listTouch (.ref (N + 5)) >>= fun _ =>
    again (.builtin "list.extend.loop" ⟨[.ref (N + 5), .ref (N + 4), res], []⟩)) _ _ _
  refine wpAny_bind (wpAny_rule ?_)
  refine wpAny_bind ?_
  show wpAny _ A.in1 (updateSeq (N + 5) (·.push .none) >>= fun _ => updateSeq (N + 5) (·.pop)) _ _ _
  refine wpAny_bind (wpAny_updateSeq hS rfl ?_)
  have hS₂ := Heap.get?_update_self (Obj.mapSeq (·.push Value.none)) hS rfl
  refine wpAny_updateSeq (hz := by seq_fits) hS₂ rfl ?_
  have hS₃ := Heap.get?_update_self (Obj.mapSeq (·.pop)) hS₂ rfl
  have oth : ∀ b o, b ≠ N + 5 → s.heap.get? b = some o → ((s.heap.update (N + 5) (Obj.mapSeq (·.push Value.none))).update (N + 5) (Obj.mapSeq (·.pop))).get? b = some o :=
    fun b o hb e => (Heap.get?_update_other _ _ (Ne.symm hb)).trans ((Heap.get?_update_other _ _ (Ne.symm hb)).trans e)
  generalize ((s.heap.update (N + 5) (Obj.mapSeq (·.push Value.none))).update (N + 5) (Obj.mapSeq (·.pop))) = h₂ at hS₃ oth
  have hS₄ : ∃ c, h₂.get? (N + 5) = some { cls := .type "list", dict := none, data := .seq #[] c, slots := #[] } := ⟨_, hS₃⟩
  clear hS₃ hS₂
  obtain ⟨c₂, hS₃⟩ := hS₄
  refine wpAny_pure ⟨plainId_quiet PySem.F.plain_extend_loop _, ?_⟩
  refine codeAny_builtin PySem.F.entry_extend_loop ?_
  rw [Around.under_plainId PySem.F.plain_extend_loop _]
  show wpAny _ A.in1 (pyNext (.ref (N + 4)) >>= _) _ _ _
  have hx : xs[0]? = some xs[0] := Array.getElem?_eq_getElem h0
  have hy : ys[0]? = some ys[0] := Array.getElem?_eq_getElem (by omega)
  have hi1 : h₂.IsListIter N l1 0 := h1.at fun o e => oth _ o (adNe 0 5 (by decide)) e
  have hi2 : h₂.IsListIter (N + 1) l2 0 := h2.at fun o e => oth _ o (adNe 1 5 (by decide)) e
  have hL1 : h₂.IsList l1 xs := hls1.at fun o e => oth _ o (loNe 5 hl1) e
  have hL2 : h₂.IsList l2 ys := hls2.at fun o e => oth _ o (loNe 5 hl2) e
  refine wpAny_bind (wpAny_pyNext_zip_item (s := { s with heap := h₂ }) D (oth _ _ (adNe 4 5 (by decide)) hz) (oth _ _ (adNe 2 5 (by decide)) hTI) (oth _ _ (adNe 3 5 (by decide)) hTO) hi1 hi2 hL1 hL2 hx hy fun h₃ a1 a2 a3 a4 a5 a6 hk => ?_)
  dsimp only at a1 a5 a6 hk ⊢
  have hSl : (N + 5 : Nat) < h₂.objs.size := Heap.lt_size hS₃
  have hS' := hk (N + 5) _ (adNe 5 4 (by decide)) (adNe 5 3 (by decide)) (adNe 5 0 (by decide)) (adNe 5 1 (by decide)) hS₃
  have up : ∀ b o, b ≠ N + 5 → h₃.get? b = some o → (h₃.update (N + 5) (Obj.mapSeq (·.push (Value.ref h₂.objs.size)))).get? b = some o := fun b o hb e => (Heap.get?_update_other _ _ (Ne.symm hb)).trans e
  show wpAny _ A.in1 (updateSeq (N + 5) (·.push (Value.ref h₂.objs.size)) >>= _) _ _ _
  refine wpAny_bind ?_
  refine wpAny_updateSeq hS' rfl (wpAny_pure ⟨plainId_quiet PySem.F.plain_extend_loop _, ?_⟩)
  have st : ZipSt (N + 4) (N + 2) (N + 3) N (N + 1) l1 l2 h₂.objs.size 1 xs ys h₃ := ⟨⟨false, a1⟩, ⟨_, a5⟩, hk _ _ (adNe 2 4 (by decide)) (adNe 2 3 (by decide)) (adNe 2 0 (by decide)) (adNe 2 1 (by decide)) (oth _ _ (adNe 2 5 (by decide)) hTI), a3, a4, hL1.at fun o e => hk _ o (loNe 4 hl1) (loNe 3 hl1) (loNe 0 hl1) (loNe 1 hl1) e, hL2.at fun o e => hk _ o (loNe 4 hl2) (loNe 3 hl2) (loNe 0 hl2) (loNe 1 hl2) e⟩
  refine zipLoop (s := s) (h₁ := s.heap) hh D hl1 hl2 hsz hn res hR (xs.size - 1) 1 _ _ _ (#[].push (Value.ref h₂.objs.size)) [h₂.objs.size] h₂.objs.size rfl h0 (st.keep up (adNe 4 5 (by decide)) (gtNe 5 hSl (by decide)) (adNe 2 5 (by decide)) (adNe 0 5 (by decide)) (adNe 1 5 (by decide)) (loNe 5 hl1) (loNe 5 hl2)) hSl
    (fun (b : Nat) o (h1 : (b : Nat) < N) e => up b o (loNe 5 h1) (hk b o (loNe 4 h1) (loNe 3 h1) (loNe 0 h1) (loNe 1 h1) (oth b o (loNe 5 h1) e))) (Heap.get?_update_self _ hS' rfl) rfl rfl ?_
  refine ⟨fun a ha => by rw [List.mem_singleton.mp ha]; exact hSl, fun j a hj => ?_⟩
  match j, hj with
  | 0, hj =>
    have : h₂.objs.size = a := by simpa using hj
    subst this
    exact ⟨_, _, hx, hy, up _ _ (gtNe 5 hSl (by decide)) a5⟩
  | j + 1, hj => simp at hj
end
end
end Mine
namespace Mine
open PySem PySem.W PySem.Calls PyProof.Rows PySem.SeqAt
section
variable {prog : Program} {w : World} {A : Around} {E : Value → Shared → Prop} {s : Shared} {l1 l2 : Nat} {xs ys : Array Value}
theorem zipRaw {Q : Value → Shared → Prop} (hh : A.handled = none) (hls1 : s.heap.IsList l1 xs) (hls2 : s.heap.IsList l2 ys) (hsz : xs.size = ys.size) (hn : xs.size ≤ sizeLine) (h0 : 0 < xs.size)
    (hQ : ∀ h' tk acc c as, (∀ b o, s.heap.get? b = some o → h'.get? b = some o) → h'.get? (s.heap.objs.size + 5) = some { cls := .type "list", dict := none, data := .seq acc c, slots := #[] } → as.length = xs.size → ZG xs ys (s.heap.objs.size + 5) h' as →
      acc.toList = as.map Value.ref → Q (.ref (s.heap.objs.size + 5)) { s with heap := h', toks := tk }) :
    wpAny (model prog w) A (call (.type "zip") [.ref l1, .ref l2]) (fun z s₁ => wpAny (model prog w) A (call (.type "list") [z]) Q E s₁) E s := by
  refine call_zip_2 hls1 hls2 fun h₁ hz hTI hTO hi1 hi2 hsz₁ hk => ?_
  have hlt1 : l1 < s.heap.objs.size := let ⟨_, e, _⟩ := hls1; Heap.lt_size e
  have hlt2 : l2 < s.heap.objs.size := let ⟨_, e, _⟩ := hls2; Heap.lt_size e
  have D : ZipApart (s.heap.objs.size + 4) (s.heap.objs.size + 2) (s.heap.objs.size + 3) s.heap.objs.size (s.heap.objs.size + 1) l1 l2 := ktu_apart _ _ _ hlt1 hlt2
  have hL1 : h₁.IsList l1 xs := hls1.at fun o e => hk _ o e
  have hL2 : h₁.IsList l2 ys := hls2.at fun o e => hk _ o e
  generalize hN : s.heap.objs.size = N at hz hTI hTO hi1 hi2 hsz₁ hlt1 hlt2 D hQ ⊢
  have lt : ∀ (b : Nat) o, s.heap.get? b = some o → b < N := fun b o e => by rw [← hN]; exact Heap.lt_size e
  refine callType_codes (Q₁ := fun obj s₁ => obj = .ref (N + 5) ∧ s₁ = { s with heap := h₁.push { cls := .type "list", data := .seq #[] } }) PySem.F.called_list (PySem.F.typeCall_list_1 _) PySem.F.entry_list_init
    (code_list_new _ ⟨by rw [← hsz₁], rfl⟩) fun obj s₁ q₁ => ?_
  obtain ⟨rfl, rfl⟩ := q₁
  have hS : (h₁.push { cls := .type "list", data := .seq #[] }).get? (N + 5) = some { cls := .type "list", data := .seq #[] } := by rw [← hsz₁]; exact Heap.get?_push_size _ rfl
  refine ⟨⟨_, hS, rfl⟩, PySem.F.args_list_init_2 _ _, ?_⟩
  show wpAny _ _ (do let old ← Builtin.List.listItems (.ref (N + 5)); Builtin.List.listUpdate (.ref (N + 5)) (fun _ => #[]); letGo old.toList.reverse; Builtin.List.listExtendWith (.ref (N + 5)) (.ref (N + 4)) .none) _ _ _
  refine wpAny_bind ?_
  unfold Builtin.List.listItems
  refine wpAny_bind (wpAny_seqItems hS rfl (wpAny_pure ?_))
  show wpAny _ _ (updateSeq (N + 5) (fun _ => #[]) >>= fun _ => letGo (#[] : Array Value).toList.reverse >>= fun _ => Builtin.List.listExtendWith (.ref (N + 5)) (.ref (N + 4)) .none) _ _ _
  refine wpAny_bind (wpAny_updateSeq hS rfl ?_)
  have hS₂ := Heap.get?_update_self (Obj.mapSeq (fun _ => (#[] : Array Value))) hS rfl
  have oth : ∀ b o, b ≠ N + 5 → h₁.get? b = some o → ((h₁.push { cls := .type "list", data := .seq #[] }).update (N + 5) (Obj.mapSeq (fun _ => (#[] : Array Value)))).get? b = some o :=
    fun b o hb e => (Heap.get?_update_other _ _ (Ne.symm hb)).trans (Heap.get?_push_of_some _ e)
  generalize ((h₁.push { cls := .type "list", data := .seq #[] }).update (N + 5) (Obj.mapSeq (fun _ => (#[] : Array Value)))) = h₂ at hS₂ oth
  refine wpAny_bind (wpAny_letGo ?_)
  refine zipExtend (A := A.in1) (s := { s with heap := h₂ }) hh (oth _ _ (nne (by omega)) hz) (oth _ _ (nne (by omega)) hTI) (oth _ _ (nne (by omega)) hTO) (hi1.at fun o e => oth _ o (nne (by omega)) e) (hi2.at fun o e => oth _ o (nne (by omega)) e)
    (hL1.at fun o e => oth _ o (nne (by omega)) e) (hL2.at fun o e => oth _ o (nne (by omega)) e) D hlt1 hlt2 hsz hn h0 .none _ hS₂ fun h' tk acc c as hk' hS' hl hG hacc => ?_
  refine ⟨rfl, hQ h' tk acc c as (fun (b : Nat) o e => ?_) hS' hl hG hacc⟩
  have hb := lt b o e
  exact hk' b o hb (oth b o (nne (by omega)) (hk b o e))
end
section
variable {c : Cx} {d : Nat} {fx : Fx} {ρ : List Addr} {σ : St} {h : Heap} {s : Shared} {A : Around} {Q : V → St → Prop}
theorem zip_rel {xs ys : List Value} {vs us : List V} {S : Addr} {as : List Addr} (v1 : VRs ρ h vs xs) (v2 : VRs ρ h us ys) (hl : as.length = xs.length) (hxy : xs.length = ys.length) (g : ZG xs.toArray ys.toArray S h as) : VRs ρ h ((vs.zip us).map fun p => .tup [p.1, p.2]) (as.map Value.ref) := by
  have key : ∀ (vs us : List V) (xs ys : List Value) (as : List Addr), VRs ρ h vs xs → VRs ρ h us ys → as.length = xs.length → xs.length = ys.length → (∀ (j : Nat) (a : Addr), as[j]? = some a → ∃ x y, xs[j]? = some x ∧ ys[j]? = some y ∧ IsPair h a x y) → VRs ρ h ((vs.zip us).map fun p => .tup [p.1, p.2]) (as.map Value.ref) := by
    intro vs
    induction vs with
    | nil =>
      intro us xs ys as v1 v2 hl hxy hp
      cases v1
      have : as = [] := by cases as with | nil => rfl | cons _ _ => cases hl
      subst this
      simp; exact .nil
    | cons v vs ih =>
      intro us xs ys as v1 v2 hl hxy hp
      cases v1 with
      | cons a1 a2 =>
        cases v2 with
        | nil => cases hxy
        | cons b1 b2 =>
          cases as with
          | nil => cases hl
          | cons a as =>
            obtain ⟨x, y, e1, e2, e3⟩ := hp 0 a rfl
            simp at e1 e2; subst e1; subst e2
            rw [List.zip_cons_cons, List.map_cons, List.map_cons]
            refine .cons (.tup (n := 0) (xs := [_, _]) e3 (.cons a1 (.cons b1 .nil))) (ih _ _ _ _ a2 b2 (by simpa using hl) (by simpa using hxy) fun j b e => ?_)
            obtain ⟨x', y', f1, f2, f3⟩ := hp (j + 1) b (by simpa using e)
            exact ⟨x', y', by simpa using f1, by simpa using f2, f3⟩
  exact key vs us xs ys as v1 v2 hl hxy fun j a e => by simpa using g.pairs j a e
theorem EV.listZip {np1 np2 pos1 pos2 : Pos} {e1 e2 : Expr} (g1 : nsIn c.K mainGlobals "list" = some none) (g2 : nsIn c.K mainGlobals "zip" = some none)
    (h : EVs c d fx (spliced (backTo pos2 (starEach [e1, e2] fx.env))) σ (fun ws σ₂ => ∃ i j vs us, ws = [.ref i, .ref j] ∧ σ₂.hp[i]? = some (.list vs) ∧ σ₂.hp[j]? = some (.list us) ∧ vs.length = us.length ∧ 0 < vs.length ∧ vs.length ≤ 10000 ∧
      Q (.ref σ₂.hp.length) ⟨σ₂.loc, σ₂.hp ++ [.list ((vs.zip us).map fun p => .tup [p.1, p.2])]⟩))
    (hpl : plainArgs [e1, e2] = true := by rfl) (hx1 : fx.env.kindOf "list" = some .globalImplicit := by rfl) (hx2 : fx.env.kindOf "zip" = some .globalImplicit := by rfl) :
    EV c d fx (eval (.Call (.Name "list" np1) [.Call (.Name "zip" np2) [e1, e2] [] pos2] [] pos1) fx.env) σ Q := fun ρ s A R r => by
  have inner : wpAny c.M A (eval (.Call (.Name "zip" np2) [e1, e2] [] pos2) fx.env) (fun z s₁ => wpAny c.M A (PySem.call (.type "list") [z]) (Post c fx ρ s Q) noE s₁) noE s := by
    refine Call_ ?_
    refine Calls.Name_function_global r.1.kind hx2 (Calls.loadGlobal_builtin r.1.gNs (mg_none_of r.1.ok.k r.1.ok.t.g g2) r.1.bNs ((r.1.ok.t.builtins "zip" (by decide)).trans Boot.«zip») ?_) (by decide)
    have hh := h ρ s A R r
    rw [star_plain hpl, backTo_plain] at hh ⊢
    refine callWith_of (P := fun _ => True) (by rw [any_plain]; rfl) (fun h _ => ⟨.machine, .inr (.inl rfl), Looks.of_pure rfl⟩) (evalArgs_V _ (wpAny_mono hh ?_ fun _ _ e => e))
    rintro xs s₁ ⟨ρ₁, _, ⟨loc₁, hp₁⟩, p₁, x₁, r₁, v₁, i, j, vs, us, rfl, ho1, ho2, hl, h0, hz, q⟩
    refine ⟨trivial, ?_⟩
    cases v₁ using VRs.consC with
    | cons va vr =>
      cases vr using VRs.consC with
      | cons vb vr =>
        cases vr using VRs.nilC
        cases va using VR.refC with
        | ref ha => cases vb using VR.refC with
          | ref hb =>
            rename_i a b
            obtain ⟨o1, g3, as1, n1, rfl, hv1⟩ := r₁.1.obj i a _ ha ho1
            obtain ⟨o2, g4, as2, n2, rfl, hv2⟩ := r₁.1.obj j b _ hb ho2
            have hls1 : s₁.heap.IsList a as1.toArray := ⟨_, g3, rfl, n1, rfl⟩
            have hls2 : s₁.heap.IsList b as2.toArray := ⟨_, g4, rfl, n2, rfl⟩
            have q1 := hv1.length
            have q2 := hv2.length
            refine zipRaw (s := s₁) (A := A) R.handled hls1 hls2 (by simp; omega) (by rw [sizeLine_eq]; simp; omega) (by simp; omega) fun h' tk acc cn as hk hS hal hG hacc => ?_
            have ki : ImmKeep s₁.heap h' := fun b o _ e => hk b o e
            have hvr := zip_rel (hv1.mono (List.prefix_refl _) ki) (hv2.mono (List.prefix_refl _) ki) (by simpa using hal) (by omega) hG
            have hacc' : acc = (as.map Value.ref).toArray := by rw [← hacc]
            subst hacc'
            have hr' : RelS c fx ρ₁ ⟨loc₁, hp₁⟩ { s₁ with heap := h', toks := tk } := ⟨r₁.1.ext hk, r₁.2⟩
            have hfr : ∀ (b : Nat) o, s₁.heap.get? b = some o → b ≠ s₁.heap.objs.size + 5 := fun b o e => by have := Heap.lt_size e; intro q; rw [q] at this; exact absurd this (by simp)
            have hnone : s₁.heap.get? (s₁.heap.objs.size + 5) = none := get_none_of_lt (Nat.le_add_right _ _)
            refine ⟨ρ₁ ++ [s₁.heap.objs.size + 5], .ref hp₁.length, ⟨loc₁, hp₁ ++ [.list ((vs.zip us).map fun p => .tup [p.1, p.2])]⟩, p₁.trans (pre_snoc ..), x₁.trans ⟨fun x m => ?_, fun b o _ e => hk b o e⟩ r₁.1.hasL, ⟨?_, r₁.2⟩, .ref ?_, q⟩
            · rcases List.mem_append.mp m with m | m
              · exact .inl m
              · rw [List.mem_singleton] at m; subst m; exact .inr hnone
            · exact hr'.1.adopt hS (fun m => by
                obtain ⟨_, _, y, _, _, e, _⟩ := r₁.1.toHRel.mem m
                rw [hnone] at e; cases e) (r₁.1.size₀ (Nat.le_add_right _ _)) (fun q => by
                obtain ⟨y, e⟩ := r₁.1.hasL
                rw [q, hnone] at e; cases e) ⟨_, _, rfl, hvr.mono (pre_snoc ..) (ImmKeep.refl _)⟩
            · rw [← r₁.1.len, List.getElem?_append_right (Nat.le_refl _)]; simp
  refine Call_ ?_
  refine Calls.Name_function_global r.1.kind hx1 (Calls.loadGlobal_builtin r.1.gNs (mg_none_of r.1.ok.k r.1.ok.t.g g1) r.1.bNs ((r.1.ok.t.builtins "list" (by decide)).trans Boot.«list») ?_) (by decide)
  have hpl1 : plainArgs [Expr.Call (.Name "zip" np2) [e1, e2] [] pos2] = true := rfl
  have hh : wpAny c.M A (spliced (backTo pos1 (starEach [Expr.Call (.Name "zip" np2) [e1, e2] [] pos2] fx.env))) (fun xs s₁ => wpAny c.M A (PySem.call (.type "list") xs) (Post c fx ρ s Q) noE s₁) noE s := by
    refine args_cons (wpAny_mono inner ?_ fun _ _ e => e) (starEach_cons rfl)
    intro z s₁ hz
    exact args_nil hz
  rw [star_plain hpl1, backTo_plain] at hh ⊢
  exact callWith_of (P := fun _ => True) (by rw [any_plain]; rfl) (fun h _ => ⟨.machine, .inr (.inl rfl), Looks.of_pure rfl⟩) (evalArgs_V _ (wpAny_mono hh (fun xs s₁ z => ⟨trivial, z⟩) fun _ _ e => e))
end
end Mine
namespace Mine
open PySem PySem.W PySem.Calls PyProof.Rows PySem.SeqAt
section
variable {c : Cx} {d : Nat} {fx : Fx} {ρ : List Addr} {σ : St} {h : Heap} {s : Shared} {A : Around} {Q : V → St → Prop}
theorem SrcT.tupList {elts : List Expr} {x1 : Nat} {tpos : Pos} {l : Nat} {vs : List V} (hl : σ.hp[l]? = some (.list vs)) : SrcT c fx (.Tuple elts x1 tpos) (.ref l) σ vs.length (fun i => vs.getD i .none) (fun σ => σ.hp[l]? = some (.list vs)) := fun ρ s A x R E hh r vx q => by
  cases vx using VR.refC with
  | ref ha =>
    rename_i a
    obtain ⟨o, ho, xs, n, rfl, hxs⟩ := r.1.obj l a _ ha hl
    refine wpAny_pyIter_list ⟨_, ho, rfl, n, rfl⟩ ?_
    exact q _ _ _ _ (fun _ _ e => Heap.get?_push_of_some _ e) (by rw [Heap.size_push]; exact Nat.le_succ _) (get_none_of_lt (Nat.le_refl _)) (r.1.size₀ (Nat.le_refl _)) (It.list ha) (fun A' i s' z R' E' j hR => ownedGo_list j hR) ⟨_, Heap.get?_push_size _ rfl, rfl, rfl⟩
theorem OVs.minL {i : Nat} {ns : List Int} (ho : σ.hp[i]? = some (.list (ns.map V.int))) (h0 : 0 < ns.length) (q : ∀ m, m ∈ ns → (∀ a ∈ ns, m ≤ a) → Q (.int m) σ) :
    OVs c d fx (fun xs => PySem.call (.builtin "min") xs) [.ref i] σ Q := fun ρ s A xs R r va => by
  cases va using VRs.consC with
  | cons v1 v2 =>
    cases v2 using VRs.nilC
    cases v1 using VR.refC with
    | ref ha =>
      rename_i b
      obtain ⟨a, ys, n, h1, h2, h3, h4⟩ := r.1.toHRel.list ho
      have eab : b = a := Option.some.inj (ha.symm.trans h1)
      subst eab
      obtain ⟨ts, rfl, e2⟩ := VRs.ints' h3
      have hlen : ts.length = ns.length := by rw [← e2]; simp
      have e3 : ∀ j, numAt ts.toArray j = ns[j]?.getD 0 := fun j => by
        unfold numAt; rw [← e2]; simp
      refine min_intList (xs := ts.toArray) R.handled (by unfold intItems; simpa using h4) (by simp; omega) fun v h' tk hv hk => ?_
      obtain ⟨t, rfl⟩ := intItems_at hv
      obtain ⟨g1, g2⟩ := argBest_lt (numAt ts.toArray) (ts.toArray.size - 1)
      have hts : ts.toArray.size = ns.length := by simp [hlen]
      refine Post.keeps r hk (.int _ t) (q _ ?_ fun a ha => ?_)
      · rw [e3, List.getElem?_eq_getElem (by omega)]; exact List.getElem_mem _
      · obtain ⟨j, hj, rfl⟩ := List.getElem_of_mem ha
        have := g2 j (by omega)
        rw [e3 j, List.getElem?_eq_getElem hj] at this
        exact this
theorem EV.sliceFrom {value e : Expr} {sp pos : Pos}
    (h : EV c d fx (eval value fx.env) σ (fun v σ₁ => ∃ l, v = .ref l ∧ EV c d fx (eval e fx.env) σ₁ (fun u σ₂ => ∃ k vs, u = .int k ∧ σ₂.hp[l]? = some (.list vs) ∧ vs.length ≤ 2 ^ 20 ∧ Q (.ref σ₂.hp.length) ⟨σ₂.loc, σ₂.hp ++ [.list (vs.drop (clipAt vs.length k))]⟩)))
    (ht : ∀ o r, letTemporaryGo value o r = pure () := by intro _ _; rfl) :
    EV c d fx (eval (.Subscript value (.Slice (some e) none none sp) pos) fx.env) σ Q := fun ρ s A R r => by
  refine wpAny_Subscript_list_slice (wpAny_mono (h ρ s A R r) ?_ fun _ _ e => e) ht
  rintro x s₁ ⟨ρ₁, _, σ₁, p₁, e₁, r₁, v₁, l, rfl, h₁⟩
  refine wpAny_mono (h₁ ρ₁ s₁ A R r₁) ?_ fun _ _ z => z
  rintro y s₂ ⟨ρ₂, _, ⟨loc₂, hp₂⟩, p₂, e₂, r₂, hy, k, vs, rfl, hl, hlen, q⟩
  refine wpAny_pure ?_
  cases hy using VR.intC with
  | int t =>
    cases v₁ using VR.refC with
    | ref ha =>
      rename_i a
      have ha₂ := pre_get p₂ ha
      obtain ⟨x, g1, xs, n, rfl, g2⟩ := r₂.1.obj l a _ ha₂ hl
      refine ⟨a, xs.toArray, some k, none, rfl, ⟨_, g1, rfl, n, rfl⟩, by rw [sizeLine_eq]; simp [← g2.length]; omega, .int _ _, .none, ?_⟩
      have hp : slicePick xs.toArray (some k) none none = (xs.drop (clipAt xs.length k)).toArray := by
        rw [slicePick_plain]; simp; rw [List.take_of_length_le (by rw [List.length_drop]; exact Nat.le_refl _)]
      rw [hp]
      have hd : VRs ρ₂ s₂.heap (vs.drop (clipAt vs.length k)) (xs.drop (clipAt xs.length k)) := by rw [g2.length]; exact g2.drop
      have r₄ : Rel c fx ρ₂ ⟨loc₂, hp₂⟩ (s₂.heap.push { cls := .type "slice", data := .fields #[.int k t, .none, .none] }) := r₂.1.push _
      have r₅ := r₄.alloc (o := .list (vs.drop (clipAt vs.length k))) (x := { cls := .type "list", data := .seq (xs.drop (clipAt xs.length k)).toArray }) rfl ⟨_, _, rfl, hd.mono (pre_snoc _ _) fun _ _ _ e => Heap.get?_push_of_some _ (Heap.get?_push_of_some _ e)⟩
      rw [Heap.size_push] at r₅
      refine ⟨ρ₂ ++ [s₂.heap.objs.size + 1], _, _, (p₁.trans p₂).trans (pre_snoc _ _), ?_, ⟨r₅, r₂.2⟩, .ref (by rw [← r₂.1.len]; simp), q⟩
      refine (e₁.trans e₂ r₁.1.hasL).trans ?_ r₂.1.hasL
      refine Ext.trans (.push _) ?_ r₄.hasL
      have := Ext.alloc (fx := fx) (ρ := ρ₂) (h := s₂.heap.push { cls := .type "slice", data := .fields #[.int k t, .none, .none] }) { cls := .type "list", data := .seq (xs.drop (clipAt xs.length k)).toArray }
      rw [Heap.size_push] at this
      exact this
end
end Mine
namespace Mine
open PySem PySem.W PyProof.Rows
theorem Enc.size2 {ws es : List (List Nat)} (E : Enc ws es) : es.flatten.length ≤ 2 * ws.flatten.length + 2 * ws.length := by
  have : ∀ k, k ≤ es.length → endAt es k ≤ 2 * endAt ws k + 2 * k := by
    intro k
    induction k with
    | zero => intro _; simp [endAt]
    | succ k ih =>
      intro hk
      have hk1 : k < es.length := hk
      have hk2 : k < ws.length := by rw [E.len]; exact hk
      rw [endAt_succ (List.getElem?_eq_getElem hk1), endAt_succ (List.getElem?_eq_getElem hk2)]
      have h1 := (E.get k _ _ (List.getElem?_eq_getElem hk2) (List.getElem?_eq_getElem hk1)).2.1
      have h3 := ih (by omega)
      omega
  have h := this es.length (Nat.le_refl _)
  have hl := E.len
  rw [endAt_all es (Nat.le_refl _), endAt_all ws (by omega)] at h
  omega
theorem Enc.count {ws es : List (List Nat)} (E : Enc ws es) : ws.length ≤ es.flatten.length := by
  have : ∀ k, k ≤ es.length → k ≤ endAt es k := by
    intro k
    induction k with
    | zero => intro _; omega
    | succ k ih =>
      intro hk
      have hk1 : k < es.length := hk
      have hk2 : k < ws.length := by rw [E.len]; exact hk
      rw [endAt_succ (List.getElem?_eq_getElem hk1)]
      have h1 := (E.get k _ _ (List.getElem?_eq_getElem hk2) (List.getElem?_eq_getElem hk1)).2.2
      have h3 := ih (by omega)
      have : 0 < (es[k]).length := List.length_pos_iff.mpr h1
      omega
  have h := this es.length (Nat.le_refl _)
  rw [endAt_all es (Nat.le_refl _), ← E.len] at h
  exact h
structure LevT (U : List Nat) (l : Lev) : Prop where
  enc : Enc l.1 l.2
  eq : l.1.flatten = U
  ne : ∀ x ∈ l.1, x ≠ []
  some_ : l.1 ≠ []
  small : l.2.flatten.length < 90000
  plen : ∀ x ∈ l.1, x.length ≤ 100
noncomputable def bot (U : List Nat) : List Lev → List Nat
  | [] => U
  | l :: r => bot l.2.flatten r
noncomputable def FromT (U : List Nat) : List Lev → Prop
  | [] => True
  | l :: r => LevT U l ∧ FromT l.2.flatten r
theorem FromT.chain : ∀ {L : List Lev} {U : List Nat}, FromT U L → ChainOk (bot U L) L ∧ txt (bot U L) L = U
  | [], U, _ => ⟨trivial, rfl⟩
  | l :: r, U, h => by
    obtain ⟨h1, h2⟩ := h
    obtain ⟨i1, i2⟩ := h2.chain
    refine ⟨⟨?_, i1⟩, h1.eq⟩
    show LevOk (txt (bot l.2.flatten r) r) l
    rw [i2]
    exact ⟨h1.enc, rfl, h1.ne, h1.some_, h1.small, h1.plen⟩
theorem FromT.snoc {l : Lev} : ∀ {L : List Lev} {U : List Nat}, FromT U L → LevT (bot U L) l → FromT U (L ++ [l]) ∧ bot U (L ++ [l]) = l.2.flatten
  | [], U, _, h => ⟨⟨h, trivial⟩, rfl⟩
  | x :: r, U, h, hl => by
    obtain ⟨i1, i2⟩ := FromT.snoc (L := r) h.2 hl
    exact ⟨⟨h.1, i1⟩, i2⟩
theorem FromT.small : ∀ {L : List Lev} {U : List Nat}, FromT U L → U.length < 90000 → (bot U L).length < 90000
  | [], U, _, h => h
  | x :: r, U, h, hl => FromT.small (L := r) h.2 h.1.small
noncomputable def posAt : List Lev → Nat → Nat → Nat
  | _, p, 0 => p
  | [], p, _ + 1 => p
  | l :: r, p, m + 1 => posAt r (low l.1 l.2 p) m
theorem posAt_all : ∀ (L : List Lev) (p : Nat), posAt L p L.length = plc L p
  | [], p => rfl
  | l :: r, p => posAt_all r _
theorem posAt_zero (L : List Lev) (p : Nat) : posAt L p 0 = p := by cases L <;> rfl
theorem BB.split {H : List O} {C : Addr} {T0 : List Nat} {R : List V} : ∀ (m : Nat) (L : List Lev) (p : Nat), m ≤ L.length → ∃ X, BB H C T0 R L p = BB H C T0 R (L.drop m) (posAt L p m) ++ X
  | 0, L, p, _ => ⟨[], by rw [posAt_zero]; simp⟩
  | m + 1, [], p, h => by simp at h
  | m + 1, l :: r, p, h => by
    obtain ⟨X, hX⟩ := BB.split (H := H) (C := C) (T0 := T0) (R := R) m r (low l.1 l.2 p) (by simpa using h)
    refine ⟨X ++ pblk (H.length + 11 + 10 * r.length) C (mi H.length r.length) (hOf l.1 p) (lineOf l.1.flatten p), ?_⟩
    rw [List.drop_succ_cons]
    show BB H C T0 R r (low l.1 l.2 p) ++ _ = BB H C T0 R (r.drop m) (posAt r (low l.1 l.2 p) m) ++ _
    rw [hX, List.append_assoc]
structure AtLev (U : List Nat) (L : List Lev) (p m : Nat) (T : List Nat) (q : Nat) : Prop where
  pos : q = posAt L p m
  txt : T = Mine.txt (bot U L) (L.drop m)
  ge : 0 < q
  le : q ≤ T.length
theorem AtLev.zero {U : List Nat} {L : List Lev} {p : Nat} (F : FromT U L) (h0 : 0 < p) (h1 : p ≤ U.length) : AtLev U L p 0 U p :=
  ⟨(posAt_zero L p).symm, F.chain.2.symm, h0, h1⟩
theorem AtLev.next : ∀ {m : Nat} {L : List Lev} {U : List Nat} {p : Nat} {T : List Nat} {q : Nat} {l : Lev}, FromT U L → AtLev U L p m T q → L[m]? = some l → LevT T l ∧ AtLev U L p (m + 1) l.2.flatten (low l.1 l.2 q)
  | 0, l' :: r, U, p, T, q, l, F, A, e => by
    simp at e; subst e
    have hp := A.pos
    rw [posAt_zero] at hp
    subst hp
    have hT : T = U := by
      have := A.txt
      rw [List.drop_zero] at this
      rw [this]; exact F.chain.2
    subst hT
    refine ⟨F.1, ⟨?_, ?_, low_pos F.1.enc A.ge F.1.some_, low_le _ _ _⟩⟩
    · show _ = posAt r (low l'.1 l'.2 q) 0
      rw [posAt_zero]
    · rw [List.drop_succ_cons, List.drop_zero]
      exact F.2.chain.2.symm
  | m + 1, l' :: r, U, p, T, q, l, F, A, e => by
    have A' : AtLev l'.2.flatten r (low l'.1 l'.2 p) m T q := ⟨A.pos, A.txt, A.ge, A.le⟩
    obtain ⟨h1, h2⟩ := AtLev.next F.2 A' (by simpa using e)
    exact ⟨h1, ⟨h2.pos, h2.txt, h2.ge, h2.le⟩⟩
  | 0, [], _, _, _, _, _, _, _, e => by simp at e
  | _ + 1, [], _, _, _, _, _, _, _, e => by simp at e
noncomputable def stepsV (l : Lev) : List V := ((endsV l.1).zip (endsV l.2)).map fun p => .tup [p.1, p.2]
theorem stepsV_len {l : Lev} (E : Enc l.1 l.2) : (stepsV l).length = l.1.length := by
  unfold stepsV; rw [List.length_map, List.length_zip, endsV_len, endsV_len, E.len]; simp
theorem stepsV_get {l : Lev} (E : Enc l.1 l.2) {i : Nat} (h : i < l.1.length) : (stepsV l)[i]? = some (.tup [.int (endAt l.1 (i + 1) : Nat), .int (endAt l.2 (i + 1) : Nat)]) := by
  have hl := E.len
  have h1 := endsV_get (es := l.1) h
  have h2 := endsV_get (es := l.2) (k := i) (by omega)
  have hz : ((endsV l.1).zip (endsV l.2))[i]? = some (V.int (endAt l.1 (i + 1) : Nat), V.int (endAt l.2 (i + 1) : Nat)) := List.getElem?_zip_eq_some.mpr ⟨h1, h2⟩
  unfold stepsV
  rw [List.getElem?_map, hz]
  rfl
noncomputable def reachN (l : Lev) (q n : Nat) : List Int := ((List.range n).filter fun t => decide (q ≤ endAt l.1 (t + 1))).map fun t => ((endAt l.2 (t + 1) : Nat) : Int)
theorem reachN_succ (l : Lev) (q n : Nat) : reachN l q (n + 1) = reachN l q n ++ if q ≤ endAt l.1 (n + 1) then [((endAt l.2 (n + 1) : Nat) : Int)] else [] := by
  unfold reachN
  rw [List.range_succ, List.filter_append, List.map_append]
  congr 1
  by_cases h : q ≤ endAt l.1 (n + 1)
  · rw [if_pos h]; simp [h]
  · rw [if_neg h]; simp [h]
theorem reachN_len (l : Lev) (q n : Nat) : (reachN l q n).length ≤ n := by
  unfold reachN; rw [List.length_map]
  exact Nat.le_trans (List.length_filter_le _ _) (by simp)
theorem low_min {T : List Nat} {l : Lev} {q : Nat} (h : LevT T l) (h0 : 0 < q) (h1 : q ≤ T.length) : 0 < (reachN l q l.1.length).length ∧ ∀ m : Int, m ∈ reachN l q l.1.length → (∀ a ∈ reachN l q l.1.length, m ≤ a) → m = ((low l.1 l.2 q : Nat) : Int) := by
  have hj := jOf_pos h0 h.some_
  have hjl := jOf_le l.1 q
  have hU : q ≤ l.1.flatten.length := by rw [h.eq]; exact h1
  have iff := fun i hi => jOf_iff l.1 q i hi hU
  have hin : ((endAt l.2 (jOf l.1 q) : Nat) : Int) ∈ reachN l q l.1.length := by
    unfold reachN
    refine List.mem_map.mpr ⟨jOf l.1 q - 1, List.mem_filter.mpr ⟨List.mem_range.mpr (by omega), ?_⟩, ?_⟩
    · have := (iff (jOf l.1 q - 1) (by omega)).mpr (by omega)
      exact decide_eq_true this
    · rw [show jOf l.1 q - 1 + 1 = jOf l.1 q by omega]
  refine ⟨List.length_pos_of_mem hin, fun m hm hle => ?_⟩
  have h2 := hle _ hin
  unfold reachN at hm
  obtain ⟨t, ht, rfl⟩ := List.mem_map.mp hm
  obtain ⟨ht1, ht2⟩ := List.mem_filter.mp ht
  have ht1 := List.mem_range.mp ht1
  have h3 := (iff t ht1).mp (of_decide_eq_true ht2)
  have h4 := endAt_mono l.2 h3
  unfold low
  omega
end Mine
namespace Mine
open PySem PySem.W PyProof.Rows PySem.SeqAt
structure LawK (K : Frag) : Prop where
  gLen : nsIn K mainGlobals "len" = some none
  gRange : nsIn K mainGlobals "range" = some none
  gSum : nsIn K mainGlobals "sum" = some none
  gMin : nsIn K mainGlobals "min" = some none
  gList : nsIn K mainGlobals "list" = some none
  gZip : nsIn K mainGlobals "zip" = some none
section
variable {c : Cx} {C aI aR aG aP aF aL aW aS aH cc P : Addr} {Lo fa : Addr} {cd : Value} {ρ₀ : List Addr} {cells : List (Str × Addr)} {X : Fl → St → Prop} {loc : List (Str × V)} {H : List O}
noncomputable abbrev cl2 : List (Str × Nat) := [("place", 3), ("pieces", 2)]
noncomputable abbrev lfx (Lo fa : Addr) (cd : Value) (cells : List (Str × Addr)) (ρ₀ : List Addr) : Fx := ⟨envX "law" (fScope (stmt 10)) Lo fa cd cells, cl2, ρ₀⟩
noncomputable def bodyOf : Stmt → List Stmt
  | .For _ _ b .. => b
  | .While _ b .. => b
  | .If _ b .. => b
  | _ => []
noncomputable def lenV (ps : List (List Nat)) : List Int := ps.map fun x => ((x.length : Nat) : Int)
theorem lenV_sum : ∀ (ps : List (List Nat)), (lenV ps).sum = ((ps.flatten.length : Nat) : Int)
  | [] => rfl
  | x :: r => by
    have := lenV_sum r
    unfold lenV at this ⊢
    rw [List.map_cons, List.sum_cons, this, List.flatten_cons, List.length_append]; omega
theorem svs_take (ps : List (List Nat)) (n : Nat) : cutL (svs ps) none (some n) = svs (ps.take n) := by
  show ((svs ps).drop 0).take (min n (svs ps).length - 0) = _
  unfold svs
  rw [List.drop_zero, Nat.sub_zero, List.map_take]
  rcases Nat.le_total n (List.map V.str ps).length with h | h
  · rw [Nat.min_eq_left h]
  · rw [Nat.min_eq_right h, List.take_of_length_le (Nat.le_refl _), List.take_of_length_le h]
theorem sumsX {d pI : Nat} {ps : List (List Nat)} (L : LawK c.K) (h1 : H[2]? = some (.cell (some (.ref pI)))) (hp : H[pI]? = some (.list (svs ps))) (hl : ps.length ≤ 1000) (hb : ∀ x ∈ ps, x.length ≤ 100)
    (q : ∀ g, X .next ⟨put "sums" (.ref (H.length + 1)) loc, H ++ [.rng 0 ps.length 1, .list (endsV ps)] ++ g⟩) :
    XV c d (lfx Lo fa cd cells ρ₀) (exec (nthS (bodyOf (nthS (fBody (stmt 10)) 4)) 2) (lfx Lo fa cd cells ρ₀).env) ⟨loc, H⟩ X := by
  refine XV.assignComp (cl' := [("pieces", 2)]) (by rfl) ?_
  refine EV.callT L.gRange Boot.«range» (by decide) ?_
  refine EVs.cons ?_
  refine EV.callB L.gLen Boot.«len» (by decide) ?_
  refine EVs.cons ?_
  refine EV.cell (i := 2) rfl h1 ?_
  refine EVs.nil ?_
  refine OVs.len_list hp (by rw [svs_len]; omega) ?_
  rw [svs_len]
  refine EVs.nil ?_
  refine OVs.range1 ?_
  have hY : (H ++ [O.rng 0 ps.length 1]).length = H.length + 1 := by simp
  have acc_len : ∀ m, ((List.range m).map fun t => V.int ((endAt ps (t + 1) : Nat) : Int)).length = m := fun m => by simp
  refine ⟨_, _, _, fun m acc hp' => acc = (List.range m).map (fun t => V.int (endAt ps (t + 1) : Nat)) ∧ ∃ g, hp' = (H ++ [.rng 0 ps.length 1]) ++ .list acc :: g, Src.upto (n := ps.length) ga (by omega), ⟨rfl, [], rfl⟩, ⟨?_, ?_⟩, ?_⟩
  · rintro m acc hp' ⟨rfl, g, rfl⟩
    exact ⟨ga, fun _ => trivial⟩
  · rintro C' clos ρ₁ m acc hp' hm ⟨rfl, g, rfl⟩
    obtain ⟨Y, eY⟩ : ∃ Y, Y = (H ++ [.rng 0 ps.length 1]) ++ O.list ((List.range m).map fun t => V.int (endAt ps (t + 1) : Nat)) :: g := ⟨_, rfl⟩
    have y1 : Y[2]? = some (.cell (some (.ref pI))) := by rw [eY]; exact app_get (app_get h1)
    have yp : Y[pI]? = some (.list (svs ps)) := by rw [eY]; exact app_get (app_get hp)
    rw [← eY]
    show EV _ _ _ _ _ _
    refine EV.callB L.gSum Boot.«sum» (by decide) ?_
    refine EVs.cons ?_
    refine EV.comp (cl' := []) (by rfl) ?_
    refine EV.sliceL ?_
    refine EV.cell (i := 2) rfl y1 ⟨pI, rfl, ?_⟩
    refine EV.binop ?_
    refine EV.var rfl ?_
    refine EV.cint ?_
    refine OV2.add_int ⟨m + 1, rfl, svs ps, yp, by rw [svs_len]; omega, ?_⟩
    rw [svs_take]
    have htl : (svs (ps.take (m + 1))).length = m + 1 := by rw [svs_len, List.length_take]; omega
    refine ⟨_, _, _, fun j acc hp' => acc = (lenV ((ps.take (m + 1)).take j)).map V.int ∧ hp' = (Y ++ [.list (svs (ps.take (m + 1)))]) ++ [.list acc], Src.list (vs := svs (ps.take (m + 1))) ga, ⟨by simp [lenV], rfl⟩, ⟨?_, ?_⟩, ?_⟩
    · rintro j acc hp' ⟨rfl, rfl⟩
      exact ⟨ga, fun _ => get_app ga⟩
    · rintro C'' clos' ρ₂ j acc hp' hj ⟨rfl, rfl⟩
      rw [htl] at hj
      obtain ⟨x, hx⟩ : ∃ x, (ps.take (m + 1))[j]? = some x := ⟨_, List.getElem?_eq_getElem (by rw [List.length_take]; omega)⟩
      have hxb := hb x (List.mem_of_mem_take (List.mem_of_getElem? hx))
      have hgd : (svs (ps.take (m + 1))).getD j .none = .str x := by rw [List.getD_eq_getElem?_getD, svs_get hx]; rfl
      show CT c _ _ _ _ ⟨[(_, (svs (ps.take (m + 1))).getD j .none)], _⟩ _
      rw [hgd]
      show EV _ _ _ _ _ _
      refine EV.callB L.gLen Boot.«len» (by decide) ?_
      refine EVs.cons ?_
      refine EV.var rfl ?_
      refine EVs.nil ?_
      refine OVs.len_str (by omega) ?_
      refine ⟨ga, by simp [lenV]; omega, ?_, sa⟩
      rw [take_snoc hx]
      simp [lenV]
    rintro acc hp' ⟨rfl, rfl⟩
    refine EVs.nil ?_
    have htt : (ps.take (m + 1)).take (m + 1) = ps.take (m + 1) := by rw [List.take_take, Nat.min_self]
    rw [htl, htt]
    refine OVs.sum (ns := lenV (ps.take (m + 1))) ga (fun n hn => ?_) (by simp [lenV]; omega) ?_
    · obtain ⟨x, hx, rfl⟩ := List.mem_map.mp hn
      have := hb x (List.mem_of_mem_take hx)
      omega
    · rw [lenV_sum]
      refine ⟨by rw [eY]; exact get_app (get_app ga), by rw [acc_len]; omega, by rw [List.range_succ, List.map_append]; rfl, g ++ [O.list (svs (ps.take (m + 1))), O.list ((lenV (ps.take (m + 1))).map V.int)], ?_⟩
      show (Y ++ [_] ++ [_]).set _ _ = _
      rw [List.append_assoc, List.set_append_left _ _ (by rw [eY]; simp), eY, sa]
      simp
  · rintro acc hp' ⟨rfl, g, rfl⟩
    refine OU1.name ?_
    have := q g
    show X .next ⟨put "sums" (.ref (H ++ [O.rng 0 ps.length 1]).length) loc, _⟩
    rw [hY]
    have e : (H ++ [O.rng 0 ps.length 1]) ++ O.list ((List.range ps.length).map fun t => V.int (endAt ps (t + 1) : Nat)) :: g = H ++ [.rng 0 ps.length 1, .list (endsV ps)] ++ g := by
      unfold endsV; simp
    rw [e]; exact this
theorem minX {d s q : Nat} {l : Lev} {T : List Nat} {Q : V → St → Prop} (L : LawK c.K) (hlt : LevT T l) (h0 : 0 < q) (hq : q ≤ T.length) (h2 : H[3]? = some (.cell (some (.int (q : Nat))))) (hs : H[s]? = some (.list (stepsV l))) (hst : at_ loc "steps" = some (.ref s)) (hll : l.1.length ≤ 100000)
    (fin : ∀ g, Q (.int (low l.1 l.2 q : Nat)) ⟨loc, H ++ g⟩) {e : Expr} {pos : Pos} {tp : Expr} (he : nthS (bodyOf (nthS (bodyOf (nthS (bodyOf (nthS (fBody (stmt 10)) 8)) 2)) 1)) 0 = .Assign [tp] e pos) :
    EV c d (lfx Lo fa cd cells ρ₀) (eval e (lfx Lo fa cd cells ρ₀).env) ⟨loc, H⟩ Q := by
  cases he
  refine EV.callB L.gMin Boot.«min» (by decide) ?_
  refine EVs.cons ?_
  refine EV.compT (cl' := [("place", 3)]) (by rfl) ?_
  refine EV.var hst ?_
  have hsl := stepsV_len hlt.enc
  refine ⟨_, _, _, fun m acc hp' => acc = (reachN l q m).map V.int ∧ hp' = H ++ [.list acc], SrcT.tupList (vs := stepsV l) hs, ⟨rfl, rfl⟩, ⟨?_, ?_⟩, ?_⟩
  · rintro m acc hp' ⟨rfl, rfl⟩
    exact ⟨ga, fun _ => get_app hs⟩
  · rintro C' clos ρ₁ m acc hp' hm ⟨rfl, rfl⟩
    rw [hsl] at hm
    have hg := stepsV_get hlt.enc hm
    have hgd : (stepsV l).getD m .none = .tup [.int (endAt l.1 (m + 1) : Nat), .int (endAt l.2 (m + 1) : Nat)] := by rw [List.getD_eq_getElem?_getD, hg]; rfl
    show OU1 _ _ _ _ ((stepsV l).getD m .none) _ _
    rw [hgd]
    refine OU1.tuple rfl ?_
    show OU1 _ _ _ _ _ _ _
    refine OU1.name ?_
    show OU1 _ _ _ _ _ _ _
    refine OU1.name ?_
    show TV _ _ _ _ _ _
    refine TV.cmp ?_
    refine EV.var rfl ?_
    refine EV.cell (i := 3) rfl (get_app h2) ?_
    refine OV2.ge_int ⟨_, rfl, fun h => ?_, fun h => ?_⟩
    · have h : q ≤ endAt l.1 (m + 1) := by have := of_decide_eq_true h; omega
      show EV _ _ _ _ _ _
      refine EV.var rfl ⟨ga, by have := reachN_len l q m; simp; omega, ?_, sa⟩
      rw [reachN_succ, if_pos h, List.map_append]; rfl
    · have h : ¬ q ≤ endAt l.1 (m + 1) := by have := of_decide_eq_false h; omega
      refine ⟨?_, rfl⟩
      rw [reachN_succ, if_neg h, List.append_nil]
  · rintro acc hp' ⟨rfl, rfl⟩
    refine EVs.nil ?_
    rw [hsl]
    obtain ⟨z1, z2⟩ := low_min hlt h0 hq
    refine OVs.minL (ns := reachN l q l.1.length) ga z1 fun m hm hle => ?_
    rw [z2 m hm hle]
    exact fin _
end
end Mine
namespace Mine
open PySem PySem.W PyProof.Rows PySem.SeqAt
structure LvR (hp : List O) (lI : Nat) (Ls : List Lev) (lvs : List V) : Prop where
  len : lvs.length = Ls.length
  get : ∀ (j : Nat) (l : Lev), Ls[j]? = some l → ∃ s, lvs[j]? = some (V.tup [.str l.2.flatten, .ref s]) ∧ hp[s]? = some (.list (stepsV l)) ∧ 4 ≤ s ∧ s ≠ lI
theorem LvR.mono {hp hp' : List O} {lI : Nat} {Ls : List Lev} {lvs : List V} (h : ∀ i o, 4 ≤ i → i ≠ lI → hp[i]? = some o → hp'[i]? = some o) (R : LvR hp lI Ls lvs) : LvR hp' lI Ls lvs :=
  ⟨R.len, fun j l e => let ⟨s, h1, h2, h3, h4⟩ := R.get j l e; ⟨s, h1, h s _ h3 h4 h2, h3, h4⟩⟩
theorem LvR.snoc {hp : List O} {lI s : Nat} {Ls : List Lev} {lvs : List V} {l : Lev} (R : LvR hp lI Ls lvs) (h1 : hp[s]? = some (.list (stepsV l))) (h2 : 4 ≤ s) (h3 : s ≠ lI) : LvR hp lI (Ls ++ [l]) (lvs ++ [V.tup [.str l.2.flatten, .ref s]]) := by
  have hl := R.len
  refine ⟨by simp [hl], fun j l' e => ?_⟩
  rcases Nat.lt_or_ge j Ls.length with h | h
  · rw [List.getElem?_append_left h] at e
    obtain ⟨s', a, b, c, d⟩ := R.get j l' e
    exact ⟨s', by rw [List.getElem?_append_left (by omega)]; exact a, b, c, d⟩
  · rw [List.getElem?_append_right h] at e
    have hj : j - Ls.length = 0 := by
      have := (List.getElem?_eq_some_iff.mp e).1
      simp at this; omega
    rw [hj] at e
    simp at e; subst e
    exact ⟨s, by rw [List.getElem?_append_right (by omega), show j - lvs.length = 0 by omega]; rfl, h1, h2, h3⟩
structure Ix where
  fI : Nat
  wI : Nat
  eI : Nat
  lI : Nat
  nI : Nat
structure LH (x : Ix) (F : List Nat) (W es0 : List (List Nat)) (Ls : List Lev) (lvs : List V) (hp : List O) : Prop where
  f : hp[x.fI]? = some (.list (ivs F))
  w : hp[x.wI]? = some (.list (svs W))
  e : hp[x.eI]? = some (.list (endsV es0))
  l : hp[x.lI]? = some (.list (.tup [.str es0.flatten, .ref x.nI] :: lvs))
  lr : LvR hp x.lI Ls lvs
  ge : 4 ≤ x.fI ∧ 4 ≤ x.wI ∧ 4 ≤ x.eI ∧ x.fI < x.lI ∧ x.wI < x.lI ∧ x.eI < x.lI
theorem LH.mono {x : Ix} {F : List Nat} {W es0 : List (List Nat)} {Ls : List Lev} {lvs : List V} {hp hp' : List O} (h : ∀ i o, 4 ≤ i → hp[i]? = some o → hp'[i]? = some o) (Z : LH x F W es0 Ls lvs hp) : LH x F W es0 Ls lvs hp' :=
  ⟨h _ _ Z.ge.1 Z.f, h _ _ Z.ge.2.1 Z.w, h _ _ Z.ge.2.2.1 Z.e, h _ _ (by have := Z.ge; omega) Z.l, Z.lr.mono fun i o a _ => h i o a, Z.ge⟩
noncomputable def bndL : Nat → Nat
  | 0 => 162
  | 1 => 436
  | _ => 1166
structure LJ (P P2 : Addr) (x : Ix) (F : List Nat) (W es0 : List (List Nat)) (Ls : List Lev) (lvs : List V) (σ : St) : Prop where
  lh : LH x F W es0 Ls lvs σ.hp
  t0 : σ.hp[0]? = some (.tab P 0 [])
  t1 : σ.hp[1]? = some (.tab P2 1 [])
  c1 : ∃ v, σ.hp[2]? = some (.cell v)
  c2 : σ.hp[3]? = some (.cell none)
  fig : at_ σ.loc "figures" = some (.ref x.fI)
  wds : at_ σ.loc "words" = some (.ref x.wI)
  ends : at_ σ.loc "ends" = some (.ref x.eI)
  lev : at_ σ.loc "levels" = some (.ref x.lI)
  text : at_ σ.loc "text" = some (.str (bot es0.flatten Ls))
  fr : FromT es0.flatten Ls
  bnd : (bot es0.flatten Ls).length ≤ bndL Ls.length
  pos : 0 < (bot es0.flatten Ls).length
  cnt : Ls.length ≤ 2
section
variable {c : Cx} {C aI aR aG aP aF aL aE aW aS aH cc P P2 : Addr} {Lo fa : Addr} {cd : Value} {ρ₀ : List Addr} {cells : List (Str × Addr)} {X : Fl → St → Prop} {loc : List (Str × V)} {H : List O}
theorem levelsX {d : Nat} {x : Ix} {F : List Nat} {W es0 : List (List Nat)} {σ : St} (hd : 2 ≤ d) (L : LawK c.K) (EK : PcsK c.K aE) (WK : WriK c.K aW) (hF8 : F.length ≤ 8) (hFn : F ≠ []) (hF16 : ∀ f ∈ F, f < 16) (J0 : LJ P P2 x F W es0 [] [] σ)
    (q : ∀ σ Ls lvs, LJ P P2 x F W es0 Ls lvs σ → X .next σ) : XV c d (lfx Lo fa cd cells ρ₀) (exec (nthS (fBody (stmt 10)) 4) (lfx Lo fa cd cells ρ₀).env) σ X := by
  refine XV.forS ?_
  refine EV.callT L.gRange Boot.«range» (by decide) ?_
  refine EVs.cons ?_
  refine EV.binop ?_
  refine EV.callB L.gSum Boot.«sum» (by decide) ?_
  refine EVs.cons ?_
  refine EV.var J0.fig ?_
  refine EVs.nil ?_
  refine OVs.sum (ns := F.map fun f => ((f : Nat) : Int)) (by rw [List.map_map]; exact J0.lh.f) (fun n hn => ?_) (by simp; omega) ?_
  · obtain ⟨f, hf, rfl⟩ := List.mem_map.mp hn
    have := hF16 f hf; omega
  refine EV.cint ?_
  refine OV2.mod_int (by decide) ?_
  obtain ⟨N, hN⟩ : ∃ N : Nat, (F.map fun f => ((f : Nat) : Int)).sum.fmod 3 = ((N : Nat) : Int) ∧ N ≤ 2 := by
    have h1 := Int.fmod_nonneg_of_pos (F.map fun f => ((f : Nat) : Int)).sum (b := 3) (by decide)
    have h2 := Int.fmod_lt_of_pos (F.map fun f => ((f : Nat) : Int)).sum (b := 3) (by decide)
    exact ⟨((F.map fun f => ((f : Nat) : Int)).sum.fmod 3).toNat, by omega, by omega⟩
  rw [hN.1]
  refine EVs.nil ?_
  refine OVs.range1 ?_
  refine ⟨_, _, _, Src.upto (n := N) ga (by omega), fun m σ => ∃ Ls lvs, Ls.length = m ∧ LJ P P2 x F W es0 Ls lvs σ, ⟨[], [], rfl, ⟨J0.lh.mono fun i o _ e => get_app e, get_app J0.t0, get_app J0.t1, J0.c1.imp fun v e => get_app e, get_app J0.c2, J0.fig, J0.wds, J0.ends, J0.lev, J0.text, J0.fr, J0.bnd, J0.pos, J0.cnt⟩⟩, fun _ _ _ => trivial, ?_, fun σ ⟨Ls, lvs, _, J⟩ => q σ Ls lvs J⟩
  rintro ρ₁ hρ₁ m ⟨loc, B0⟩ hm ⟨Ls, lvs, rfl, J⟩
  have hm2 : Ls.length ≤ 1 := by omega
  have hT : (bot es0.flatten Ls).length ≤ 436 := by
    have := J.bnd
    revert this
    match Ls.length, hm2 with
    | 0, _ => intro h; exact Nat.le_trans h (by decide)
    | 1, _ => intro h; exact h
  obtain ⟨U, hU⟩ : ∃ U, U = bot es0.flatten Ls := ⟨_, rfl⟩
  have jt := J.text
  have jp := J.pos
  rw [← hU] at jt hT jp
  refine OU1.name ?_
  -- pieces
  refine XV.cons ?_
  refine XV.assignC (i := 2) ?_ rfl
  refine EV.call 2 EK.gE EK.kE ?_ hd
  refine EVs.cons ?_
  refine EV.var (lk_ne jt (by decide)) ?_
  refine EVs.cons ?_
  refine EV.var (lk_ne J.fig (by decide)) ?_
  refine EVs.nil ?_
  refine (lawPieces EK J.lh.f hF8 hFn hF16 (by omega)).mono ?_
  rintro _ _ ⟨ps, rfl, rfl, hflat, hcnt, hok⟩
  obtain ⟨v1, hv1⟩ := J.c1
  refine ⟨v1, get_app hv1, ?_⟩
  obtain ⟨B1, e1⟩ : ∃ B1, B1 = (B0 ++ [O.list (svs ps)]).set 2 (.cell (some (.ref B0.length))) := ⟨_, rfl⟩
  have up1 : ∀ i o, i ≠ 2 → B0[i]? = some o → B1[i]? = some o := fun i o h e => by rw [e1]; exact set_ne h (get_app e)
  have k1 : B1[2]? = some (.cell (some (.ref B0.length))) := by rw [e1]; exact set_at (get_app hv1)
  have h1l : 2 < B0.length := lt_of_get hv1
  have kp : B1[B0.length]? = some (.list (svs ps)) := by rw [e1]; exact set_ne (by omega) ga
  show XV _ _ _ _ ⟨put "level" (.int (Ls.length : Nat)) loc, (B0 ++ [O.list (svs ps)]).set 2 (.cell (some (.ref B0.length)))⟩ _
  rw [← e1]
  -- written
  have hpc : ps.length ≤ 147 := by omega
  refine XV.cons ?_
  refine XV.assignT ?_
  refine EV.call 2 WK.gW WK.kW ?_ hd
  refine EVs.cons ?_
  refine EV.cell (i := 2) rfl k1 ?_
  refine EVs.cons ?_
  refine EV.var (lk_ne J.fig (by decide)) ?_
  refine EVs.nil ?_
  refine (lawWritten (W := ps) (F := F) WK kp (up1 _ _ (by have := J.lh.ge; omega) J.lh.f) hFn (by omega) (by omega) (fun w hw => by have := (hok w hw).2; omega)).mono ?_
  rintro _ _ ⟨es, rfl, E, g, rfl⟩
  have es2 := E.size2
  rw [hflat] at es2
  refine OU1.tuple rfl ?_
  show OU1 _ _ _ _ _ _ _
  refine OU1.name ?_
  show OU1 _ _ _ _ _ _ _
  refine OU1.name ?_
  obtain ⟨loc2, hloc2⟩ : ∃ l, l = put "places" (.ref B1.length) (put "text" (.str es.flatten) (put "level" (.int (Ls.length : Nat)) loc)) := ⟨_, rfl⟩
  obtain ⟨B2, e2⟩ : ∃ B2, B2 = B1 ++ O.list (endsV es) :: g := ⟨_, rfl⟩
  show XV _ _ _ _ ⟨put "places" (.ref B1.length) (put "text" (.str es.flatten) (put "level" (.int (Ls.length : Nat)) loc)), B1 ++ O.list (endsV es) :: g⟩ _
  rw [← hloc2, ← e2]
  have m1 : at_ loc2 "text" = some (.str es.flatten) := by rw [hloc2]; exact lk_ne lk_eq (by decide)
  have m2 : at_ loc2 "places" = some (.ref B1.length) := by rw [hloc2]; exact lk_eq
  have mo : ∀ {n : Str} {v : V}, at_ loc n = some v → (n == ("places" : Str)) = false → (n == ("text" : Str)) = false → (n == ("level" : Str)) = false → at_ loc2 n = some v := fun h a b c => by rw [hloc2]; exact lk_ne (lk_ne (lk_ne h c) b) a
  have up2 : ∀ i o, i ≠ 2 → B0[i]? = some o → B2[i]? = some o := fun i o h e => by rw [e2]; exact get_app (up1 i o h e)
  have k2 : B2[2]? = some (.cell (some (.ref B0.length))) := by rw [e2]; exact get_app k1
  have kp2 : B2[B0.length]? = some (.list (svs ps)) := by rw [e2]; exact get_app kp
  have ke2 : B2[B1.length]? = some (.list (endsV es)) := by rw [e2]; exact ga
  clear hloc2
  -- sums
  refine XV.cons ?_
  refine sumsX L k2 kp2 (by omega) (fun y hy => by have := (hok y hy).2; omega) fun g' => ?_
  obtain ⟨B3, e3⟩ : ∃ B3, B3 = B2 ++ [O.rng 0 ps.length 1, O.list (endsV ps)] ++ g' := ⟨_, rfl⟩
  show XV _ _ _ _ ⟨put "sums" (.ref (B2.length + 1)) loc2, B2 ++ [O.rng 0 ps.length 1, O.list (endsV ps)] ++ g'⟩ _
  rw [← e3]
  have up3 : ∀ i o, i ≠ 2 → B0[i]? = some o → B3[i]? = some o := fun i o h e => by rw [e3]; exact get_app (get_app (up2 i o h e))
  have k3 : B3[2]? = some (.cell (some (.ref B0.length))) := by rw [e3]; exact get_app (get_app k2)
  have ke3 : B3[B1.length]? = some (.list (endsV es)) := by rw [e3]; exact get_app (get_app ke2)
  have ks3 : B3[B2.length + 1]? = some (.list (endsV ps)) := by rw [e3]; exact get_app (blk_get rfl)
  -- levels.append(..)
  have hpn : ps ≠ [] := fun e => by rw [e] at hflat; rw [← hflat] at jp; simp at jp
  have hEl := E.len
  have hpl : 0 < ps.length := List.length_pos_iff.mpr hpn
  refine XV.cons ?_
  refine XV.expr ?_
  refine EV.append ?_
  refine EV.var (lk_ne (mo J.lev (by decide) (by decide) (by decide)) (by decide)) ⟨⟨_, _, rfl, up3 _ _ (by have := J.lh.ge; omega) J.lh.l⟩, ?_⟩
  refine EVs.cons ?_
  refine EV.tuple ?_
  refine EVs.cons ?_
  refine EV.var (lk_ne m1 (by decide)) ?_
  refine EVs.cons ?_
  refine EV.listZip L.gList L.gZip ?_
  refine EVs.cons ?_
  refine EV.var lk_eq ?_
  refine EVs.cons ?_
  refine EV.var (lk_ne m2 (by decide)) ?_
  refine EVs.nil ⟨_, _, endsV ps, endsV es, rfl, ks3, ke3, by rw [endsV_len, endsV_len]; exact hEl, by rw [endsV_len]; exact hpl, by rw [endsV_len]; omega, ?_⟩
  refine EVs.nil ⟨(show (2 : Nat) ≤ 1000 by decide), ?_⟩
  refine EVs.nil ?_
  have hl := J.lh.lr.len
  refine OVs.append (i := x.lI) (get_app (up3 _ _ (by have := J.lh.ge; omega) J.lh.l)) (by simp [hl]; omega) ?_
  refine XV.nil ?_
  have hlT : LevT U (ps, es) := ⟨E, hflat, fun y hy => (hok y hy).1, hpn, by show es.flatten.length < 90000; omega, fun y hy => by have := (hok y hy).2; omega⟩
  obtain ⟨n1, n2⟩ := J.fr.snoc (by rw [← hU]; exact hlT)
  obtain ⟨B4, e4⟩ : ∃ B4, B4 = B3 ++ [O.list (((endsV ps).zip (endsV es)).map fun p => .tup [p.1, p.2])] := ⟨_, rfl⟩
  have up4 : ∀ i o, i ≠ 2 → B0[i]? = some o → B4[i]? = some o := fun i o h e => by rw [e4]; exact get_app (up3 i o h e)
  have k4 : B4[2]? = some (.cell (some (.ref B0.length))) := by rw [e4]; exact get_app k3
  have kz : B4[B3.length]? = some (.list (stepsV (ps, es))) := by rw [e4]; exact ga
  have hB3 : B0.length < B3.length := by rw [e3, e2, e1]; simp; omega
  have hlI : x.lI < B0.length := lt_of_get J.lh.l
  have ge := J.lh.ge
  have Z4 : LH x F W es0 Ls lvs B4 := J.lh.mono fun i o a e => up4 i o (by omega) e
  have kl : B4[x.lI]? = some _ := Z4.l
  refine ⟨Ls ++ [(ps, es)], lvs ++ [.tup [.str es.flatten, .ref B3.length]], by simp, ?_⟩
  show LJ P P2 x F W es0 _ _ ⟨put "sums" (.ref (B2.length + 1)) loc2, (B3 ++ [O.list (((endsV ps).zip (endsV es)).map fun p => .tup [p.1, p.2])]).set x.lI (.list ((.tup [.str es0.flatten, .ref x.nI] :: lvs) ++ [.tup [.str es.flatten, .ref B3.length]]))⟩
  rw [← e4]
  have hblt : B0.length ≠ x.lI := by omega
  refine ⟨⟨set_ne (by omega) Z4.f, set_ne (by omega) Z4.w, set_ne (by omega) Z4.e, set_at kl, ?_, ge⟩, set_ne (by omega) (up4 _ _ (by omega) J.t0), set_ne (by omega) (up4 _ _ (by omega) J.t1), ⟨_, set_ne (by omega) k4⟩, set_ne (by omega) (up4 _ _ (by omega) J.c2), ?_, ?_, ?_, ?_, ?_, n1, ?_, ?_, by rw [List.length_append]; simp; omega⟩
  · exact LvR.snoc (l := (ps, es)) (Z4.lr.mono fun i o a b e => set_ne b e) (set_ne (by omega) kz) (by omega) (by omega)
  · exact lk_ne (mo J.fig (by decide) (by decide) (by decide)) (by decide)
  · exact lk_ne (mo J.wds (by decide) (by decide) (by decide)) (by decide)
  · exact lk_ne (mo J.ends (by decide) (by decide) (by decide)) (by decide)
  · exact lk_ne (mo J.lev (by decide) (by decide) (by decide)) (by decide)
  · rw [n2]; exact lk_ne m1 (by decide)
  · rw [n2, List.length_append]
    have hb := J.bnd
    rw [← hU] at hb
    revert hb
    match Ls.length, hm2 with
    | 0, _ => intro (hb : U.length ≤ 162); show es.flatten.length ≤ 436; omega
    | 1, _ => intro (hb : U.length ≤ 436); show es.flatten.length ≤ 1166; omega
  · rw [n2]
    have h0 := E.read (k := 0) (List.getElem?_eq_getElem hpl)
    cases hes : es with
    | nil => rw [hes] at hEl; simp at hEl; exact absurd hEl hpn
    | cons y r =>
      have := (E.get 0 ps[0] y (List.getElem?_eq_getElem hpl) (by rw [hes]; rfl)).2.2
      show 0 < (y :: r).flatten.length
      rw [List.flatten_cons, List.length_append]
      have : 0 < y.length := List.length_pos_iff.mpr this
      omega
end
end Mine
namespace Mine
open PySem PySem.W PyProof.Rows PySem.SeqAt
noncomputable def rowV (h m : Nat) : List V := (List.range (m + 1)).map fun i => .ref (mi h i)
theorem rowV_len (h m : Nat) : (rowV h m).length = m + 1 := by simp [rowV]
theorem rowV_get {h m i : Nat} (hi : i ≤ m) : (rowV h m)[i]? = some (.ref (mi h i)) := by unfold rowV; rw [List.getElem?_map, List.getElem?_range (by omega)]; rfl
theorem rowV_succ (h m : Nat) : rowV h m ++ [.ref (mi h (m + 1))] = rowV h (m + 1) := by
  unfold rowV; rw [List.range_succ (n := m + 1), List.map_append]; rfl
noncomputable abbrev tabs1 : List (Pos × Str) := [(giveP, giveQ)]
noncomputable abbrev tabs2 : List (Pos × Str) := [(pgiveP, pgiveQ)]
theorem tab_step {pi : List (Pos × Str)} (h : pi = [] ∨ pi = tabs2) : TabStep pgiveP pgiveQ pi tabs2 := by
  rcases h with rfl | rfl
  · exact .new (l := []) (by rfl)
  · exact .hit (a := []) (b := []) (by rfl)
section
variable {c : Cx} {C aI aR aG aP aF aL aE aW aS aH cc cp P : Addr} {Lo fa : Addr} {cd : Value} {ρ₀ : List Addr} {cells : List (Str × Addr)} {X : Fl → St → Prop} {loc : List (Str × V)} {H : List O}
theorem rowX {d lI : Nat} {T0 : List Nat} {Ls : List Lev} {lv : List V} (hd : 5 ≤ d) (L : LawK c.K) (N : NetK c.K C aI aR aG) (PK : PipK c.K aP cp) (hC : CodeHd c.H₀ cp P) (h0 : 1 < H.length) (hlI : lI ≠ 1) (hlv : H[lI]? = some (.list lv)) (hl : lv.length = Ls.length + 1) (hLs : Ls.length ≤ 100)
    (m1 : at_ loc "row" = some (.ref (H.length + 10))) (m2 : at_ loc "levels" = some (.ref lI))
    (q : ∀ pi, X .next ⟨loc, BB (H.set 1 (.tab P 1 pi)) C T0 (rowV H.length Ls.length) Ls 0⟩) :
    XV c d (lfx Lo fa cd cells ρ₀) (exec (nthS (fBody (stmt 10)) 7) (lfx Lo fa cd cells ρ₀).env) ⟨loc, BB (H.set 1 (.tab P 1 [])) C T0 (rowV H.length 0) [] 0⟩ X := by
  refine XV.whileB (fun n σ => ∃ a r pi, Ls = a ++ r ∧ n = a.length ∧ (pi = [] ∨ pi = tabs2) ∧ σ = ⟨loc, BB (H.set 1 (.tab P 1 pi)) C T0 (rowV H.length r.length) r 0⟩) Ls.length ⟨Ls, [], [], by simp, rfl, .inl rfl, rfl⟩ ?_
  rintro n _ ⟨a, r, pi, hLs', rfl, hpi, rfl⟩
  have hHl : (H.set 1 (O.tab P 1 pi)).length = H.length := by simp
  have hrl : r.length ≤ Ls.length := by rw [hLs']; simp
  have grow : (BB (H.set 1 (.tab P 1 pi)) C T0 (rowV H.length r.length) r 0)[H.length + 10]? = some (.list (rowV H.length r.length)) := by
    have := BB.row (H := H.set 1 (.tab P 1 pi)) (C := C) (T0 := T0) (R := rowV H.length r.length) r 0
    rw [hHl] at this; exact this
  have glev : (BB (H.set 1 (.tab P 1 pi)) C T0 (rowV H.length r.length) r 0)[lI]? = some (.list lv) := BB.get (set_ne hlI hlv) r 0
  have gtab : (BB (H.set 1 (.tab P 1 pi)) C T0 (rowV H.length r.length) r 0)[1]? = some (.tab P 1 pi) := BB.get (List.getElem?_set_self h0) r 0
  have glen : (BB (H.set 1 (.tab P 1 pi)) C T0 (rowV H.length r.length) r 0).length = H.length + 11 + 10 * r.length := by rw [BB.len, hHl]
  refine TV.cmp ?_
  refine EV.callB L.gLen Boot.«len» (by decide) ?_
  refine EVs.cons ?_
  refine EV.var m1 ?_
  refine EVs.nil ?_
  refine OVs.len_list grow (by rw [rowV_len]; omega) ?_
  refine EV.callB L.gLen Boot.«len» (by decide) ?_
  refine EVs.cons ?_
  refine EV.var m2 ?_
  refine EVs.nil ?_
  refine OVs.len_list glev (by omega) ?_
  rw [rowV_len, hl]
  refine OV2.lt_int ⟨_, rfl, fun h => ?_, fun h => ?_⟩
  · have h : r.length < Ls.length := by have := of_decide_eq_true h; omega
    have ha : a ≠ [] := fun e => by rw [e] at hLs'; rw [hLs'] at h; simp at h
    obtain ⟨a', l, rfl⟩ : ∃ a' l, a = a' ++ [l] := ⟨a.dropLast, a.getLast ha, (List.dropLast_concat_getLast ha).symm⟩
    refine XV.cons ?_
    refine XV.expr ?_
    refine EV.append ?_
    refine EV.var m1 ⟨⟨_, _, rfl, grow⟩, ?_⟩
    refine EVs.cons ?_
    refine EV.call 3 N.gC N.kC ?_ (by omega)
    refine EVs.cons ?_
    refine EV.call 5 PK.gP PK.kP ?_ hd
    refine EVs.cons ?_
    refine EV.sub ?_
    refine EV.var m1 ?_
    refine EV.unary ?_
    refine EV.cint ?_
    refine OV1.neg_int ?_
    have e1 : ((-1 : Int) + ((rowV H.length r.length).length : Nat)) = ((r.length : Nat) : Int) := by rw [rowV_len]; omega
    refine OV2.itemN (v := .ref (mi H.length r.length)) grow (by decide) (by rw [e1]; omega) (by rw [e1, Int.toNat_natCast]; exact rowV_get (Nat.le_refl _)) (by rw [rowV_len]; omega) ?_
    refine EVs.nil ?_
    refine (pipe (t := 1) (pi := pi) (pi' := tabs2) N PK hC gtab (tab_step hpi)).mono ?_
    rintro _ _ ⟨rfl, rfl⟩
    refine EVs.nil ?_
    refine (new_ N).mono ?_
    rintro _ _ ⟨rfl, rfl⟩
    refine EVs.nil ?_
    have hset : (BB (H.set 1 (.tab P 1 pi)) C T0 (rowV H.length r.length) r 0).set 1 (.tab P 1 tabs2) = BB (H.set 1 (.tab P 1 tabs2)) C T0 (rowV H.length r.length) r 0 := by
      rw [BB.setH (by rw [hHl]; exact h0), List.set_set]
    dsimp only
    rw [glen, hset]
    have hHl2 : (H.set 1 (O.tab P 1 tabs2)).length = H.length := by simp
    have glen2 : (BB (H.set 1 (.tab P 1 tabs2)) C T0 (rowV H.length r.length) r 0).length = H.length + 11 + 10 * r.length := by rw [BB.len, hHl2]
    have grow2 : (BB (H.set 1 (.tab P 1 tabs2)) C T0 (rowV H.length r.length) r 0)[H.length + 10]? = some (.list (rowV H.length r.length)) := by
      have := BB.row (H := H.set 1 (.tab P 1 tabs2)) (C := C) (T0 := T0) (R := rowV H.length r.length) r 0
      rw [hHl2] at this; exact this
    refine OVs.append (get_app (get_app grow2)) (by rw [rowV_len]; omega) ?_
    refine XV.nil ⟨a'.length, by simp, a', l :: r, tabs2, by rw [hLs']; simp, rfl, .inr rfl, ?_⟩
    dsimp only
    rw [show (BB (H.set 1 (.tab P 1 tabs2)) C T0 (rowV H.length r.length) r 0 ++ pstr (H.length + 11 + 10 * r.length) C (mi H.length r.length) []).length + 1 = mi H.length (r.length + 1) by
      rw [List.length_append, glen2]; show H.length + 11 + 10 * r.length + 7 + 1 = H.length + 11 + 10 * r.length + 8; omega]
    rw [rowV_succ, List.append_assoc, List.set_append_left _ _ (by rw [glen2]; omega)]
    have hsr := BB.setRow (H := H.set 1 (.tab P 1 tabs2)) (C := C) (T0 := T0) (R := rowV H.length r.length) (R' := rowV H.length (r.length + 1)) r 0
    rw [hHl2] at hsr
    rw [hsr]
    congr 1
    show _ = BB (H.set 1 (.tab P 1 tabs2)) C T0 (rowV H.length (r.length + 1)) r (low l.1 l.2 0) ++ pblk ((H.set 1 (.tab P 1 tabs2)).length + 11 + 10 * r.length) C (mi (H.set 1 (.tab P 1 tabs2)).length r.length) (hOf l.1 0) (lineOf l.1.flatten 0)
    have hlow : low l.1 l.2 0 = 0 := by unfold low; rw [jOf_zero]; simp [endAt]
    rw [hlow, hOf_zero, hHl2]
    congr 1
    rw [List.length_append, glen2]
    rfl
  · have h : Ls.length ≤ r.length := by have := of_decide_eq_false h; omega
    have ha : a = [] := by
      have := congrArg List.length hLs'
      rw [List.length_append] at this
      exact List.length_eq_zero_iff.mp (by omega)
    subst ha
    rw [List.nil_append] at hLs'
    subst hLs'
    exact q pi
end
end Mine
namespace Mine
open PySem PySem.W PyProof.Rows PySem.SeqAt
structure KL (x : Ix) (h : Nat) (loc : List (Str × V)) : Prop where
  wds : at_ loc "words" = some (.ref x.wI)
  ends : at_ loc "ends" = some (.ref x.eI)
  lev : at_ loc "levels" = some (.ref x.lI)
  atv : at_ loc "at" = some (.ref h)
  row : at_ loc "row" = some (.ref (h + 10))
theorem KL.put {x : Ix} {h : Nat} {loc : List (Str × V)} {n : Str} {v : V} (K : KL x h loc) (e : ((("words" : Str) == n) || (("ends" : Str) == n) || (("levels" : Str) == n) || (("at" : Str) == n) || (("row" : Str) == n)) = false) : KL x h (Mine.put n v loc) := by
  simp only [Bool.or_eq_false_iff] at e
  exact ⟨lk_ne K.wds e.1.1.1.1, lk_ne K.ends e.1.1.1.2, lk_ne K.lev e.1.1.2, lk_ne K.atv e.1.2, lk_ne K.row e.2⟩
theorem tail3 {α : Type} (l : List α) (d : α) (k : Nat) (h : k < l.length + 3) : (l ++ (List.replicate 3 [d]).flatten)[k]? = some (l.getD k d) := by
  rcases Nat.lt_or_ge k l.length with h1 | h1
  · rw [List.getElem?_append_left h1, List.getD_eq_getElem?_getD, List.getElem?_eq_getElem h1]; rfl
  · rw [List.getElem?_append_right h1, List.getD_eq_getElem?_getD, List.getElem?_eq_none h1]
    have hk : k - l.length < 3 := by omega
    generalize k - l.length = j at hk
    match j, hk with
    | 0, _ => rfl
    | 1, _ => rfl
    | 2, _ => rfl
theorem svs_getD (W : List (List Nat)) (k : Nat) : (svs W).getD k (.str []) = .str (W.getD k []) := by
  rw [List.getD_eq_getElem?_getD, List.getD_eq_getElem?_getD]
  unfold svs
  rw [List.getElem?_map]
  cases W[k]? <;> rfl
theorem ends_last {es : List (List Nat)} (h : 0 < es.length) : (endsV es).drop (clipAt (endsV es).length (-1)) = [.int (es.flatten.length : Nat)] := by
  have := clipAt_neg (endsV es).length 1 (by decide)
  rw [show (-((1 : Nat) : Int)) = -1 by rfl] at this
  rw [this, endsV_len, List.drop_eq_getElem_cons (by rw [endsV_len]; omega), List.drop_eq_nil_of_le (by rw [endsV_len]; omega)]
  congr 1
  have := endsV_get (es := es) (k := es.length - 1) (by omega)
  rw [List.getElem?_eq_getElem (by rw [endsV_len]; omega)] at this
  have := Option.some.inj this
  rw [this, show es.length - 1 + 1 = es.length by omega, endAt_all es (Nat.le_refl _)]
theorem ends_getD {es : List (List Nat)} (k : Nat) : (endsV es).getD k (.int (es.flatten.length : Nat)) = .int (endAt es (k + 1) : Nat) := by
  rw [List.getD_eq_getElem?_getD]
  rcases Nat.lt_or_ge k es.length with h | h
  · rw [endsV_get h]; rfl
  · rw [List.getElem?_eq_none (by rw [endsV_len]; exact h), endAt_all es (by omega)]; rfl
noncomputable abbrev Hv (H : List O) (P : Addr) (pi : List (Pos × Str)) (v : Option V) : List O := (H.set 1 (.tab P 1 pi)).set 3 (.cell v)
theorem ChainOk.drop {T0 : List Nat} : ∀ {L : List Lev}, ChainOk T0 L → ∀ m, ChainOk T0 (L.drop m)
  | _, h, 0 => h
  | [], _, _ + 1 => trivial
  | _ :: r, h, m + 1 => by rw [List.drop_succ_cons]; exact ChainOk.drop h.2 m
structure Base (c : Cx) (C aI aR aG : Addr) (x : Ix) (F : List Nat) (W es0 : List (List Nat)) (Ls : List Lev) (lvs : List V) (H : List O) : Prop where
  N : NetK c.K C aI aR aG
  lh : LH x F W es0 Ls lvs H
  h2 : 3 < H.length
  fr : FromT es0.flatten Ls
  E : Enc W es0
  Wn : 0 < W.length
  Wl : W.length ≤ 9
  el : es0.flatten.length ≤ 162
  Ll : Ls.length ≤ 2
section
variable {c : Cx} {C aI aR aG aP aF aL aE aW aS aH cc cp P : Addr} {Lo fa : Addr} {cd : Value} {ρ₀ : List Addr} {cells : List (Str × Addr)} {X : Fl → St → Prop} {loc : List (Str × V)} {H : List O}
  {x : Ix} {F : List Nat} {W es0 : List (List Nat)} {Ls : List Lev} {lvs : List V}
theorem Hv_len {pi : List (Pos × Str)} {v : Option V} : (Hv H P pi v).length = H.length := by simp [Hv]
noncomputable abbrev BX (C : Addr) (P : Addr) (es0 : List (List Nat)) (Ls : List Lev) (H : List O) (pi : List (Pos × Str)) (v : Option V) (p : Nat) : List O := BB (Hv H P pi v) C (bot es0.flatten Ls) (rowV H.length Ls.length) Ls p
theorem BX_get {pi : List (Pos × Str)} {v : Option V} {p i : Nat} {o : O} {g : List O} (h : 4 ≤ i) (e : H[i]? = some o) : (BX C P es0 Ls H pi v p ++ g)[i]? = some o := get_app (BB.get (set_ne (by omega) (set_ne (by omega) e)) Ls p)
theorem BX_cell {pi : List (Pos × Str)} {v : Option V} {p : Nat} {g : List O} (h : 3 < H.length) : (BX C P es0 Ls H pi v p ++ g)[3]? = some (.cell v) := get_app (BB.get (List.getElem?_set_self (by simpa using h)) Ls p)
theorem BX_row {pi : List (Pos × Str)} {v : Option V} {p : Nat} {g : List O} : (BX C P es0 Ls H pi v p ++ g)[H.length + 10]? = some (.list (rowV H.length Ls.length)) := by
  have := BB.row (H := Hv H P pi v) (C := C) (T0 := bot es0.flatten Ls) (R := rowV H.length Ls.length) Ls p
  rw [Hv_len] at this; exact get_app this
theorem BX_at {pi : List (Pos × Str)} {v : Option V} {p : Nat} {g : List O} : (BX C P es0 Ls H pi v p ++ g)[H.length]? = some (.list [.int (plc Ls p : Nat)]) := by
  have := BB.at (H := Hv H P pi v) (C := C) (T0 := bot es0.flatten Ls) (R := rowV H.length Ls.length) Ls p
  rw [Hv_len] at this; exact get_app this
theorem BX_set {pi : List (Pos × Str)} {v v' : Option V} {p : Nat} {g : List O} (h : 3 < H.length) : (BX C P es0 Ls H pi v p ++ g).set 3 (.cell v') = BX C P es0 Ls H pi v' p ++ g := by
  rw [List.set_append_left _ _ (by rw [BB.len, Hv_len]; omega), BB.setH (by rw [Hv_len]; exact h), List.set_set]
theorem machAt (Z : Base c C aI aR aG x F W es0 Ls lvs H) (gLen : nsIn c.K mainGlobals "len" = some none) {pi : List (Pos × Str)} {v : Option V} {p m q : Nat} {T : List Nat} {g : List O} (hm : m ≤ Ls.length) (A : AtLev es0.flatten Ls p m T q) :
    ∃ j kv, (BX C P es0 Ls H pi v p ++ g)[mi H.length (Ls.length - m)]? = some (.inst C j) ∧ (BX C P es0 Ls H pi v p ++ g)[j]? = some (.ns kv) ∧ at_ kv "lineno" = some (.int (lineOf T q)) := by
  have hc := Z.fr.chain.1
  have hs := Z.fr.small (by have := Z.el; omega)
  obtain ⟨kv, K⟩ := chain (H := Hv H P pi v) (R := rowV H.length Ls.length) Z.N gLen hs (Ls.drop m) (hc.drop m)
  obtain ⟨Y, hY⟩ := BB.split (H := Hv H P pi v) (C := C) (T0 := bot es0.flatten Ls) (R := rowV H.length Ls.length) m Ls p hm
  have hi := K.rdr.inst q
  have hn := K.rdr.ns q
  have hl := K.ln q
  rw [Hv_len, List.length_drop] at hi hn
  rw [← A.txt] at hl
  refine ⟨mi H.length (Ls.length - m) - 1, kv q, ?_, ?_, hl⟩
  · show (BB _ _ _ _ _ _ ++ g)[_]? = _
    rw [hY, ← A.pos, List.append_assoc]; exact get_app hi
  · show (BB _ _ _ _ _ _ ++ g)[_]? = _
    rw [hY, ← A.pos, List.append_assoc]; exact get_app hn
theorem topTok (Z : Base c C aI aR aG x F W es0 Ls lvs H) (gLen : nsIn c.K mainGlobals "len" = some none) {pi : List (Pos × Str)} {v : Option V} (k : Nat) (g : List O) :
    FV c 21 (.top aG) [.ref (mi H.length Ls.length)] (BX C P es0 Ls H pi v (endAt es0 k) ++ g) (fun u hp' => u = .str (W.getD k []) ∧ ∃ g', hp' = BX C P es0 Ls H pi v (endAt es0 (k + 1)) ++ (g ++ g')) := by
  have hc := Z.fr.chain
  have hs := Z.fr.small (by have := Z.el; omega)
  obtain ⟨kv, K⟩ := chain (H := Hv H P pi v) (R := rowV H.length Ls.length) Z.N gLen hs Ls hc.1
  have R := K.rdr
  rw [hc.2, Hv_len] at R
  have hl := Z.Ll
  exact ((tok_at Z.N R Z.E (by have := Z.el; omega) k g).mono fun u hp' h => h).le (by omega)
theorem topInst (Z : Base c C aI aR aG x F W es0 Ls lvs H) (gLen : nsIn c.K mainGlobals "len" = some none) {pi : List (Pos × Str)} {v : Option V} (p : Nat) (g : List O) :
    ∃ j kv, (BX C P es0 Ls H pi v p ++ g)[mi H.length Ls.length]? = some (.inst C j) ∧ (BX C P es0 Ls H pi v p ++ g)[j]? = some (.ns kv) ∧ at_ kv "get_token" = none := by
  have hc := Z.fr.chain
  have hs := Z.fr.small (by have := Z.el; omega)
  obtain ⟨kv, K⟩ := chain (H := Hv H P pi v) (R := rowV H.length Ls.length) Z.N gLen hs Ls hc.1
  have hi := K.rdr.inst p
  have hn := K.rdr.ns p
  rw [Hv_len] at hi hn
  exact ⟨_, kv p, get_app hi, get_app hn, K.gt p⟩
end
end Mine
namespace Mine
open PySem PySem.W PyProof.Rows PySem.SeqAt
section
variable {c : Cx} {C aI aR aG aP aF aL aE aW aS aH cc cp P : Addr} {Lo fa : Addr} {cd : Value} {ρ₀ : List Addr} {cells : List (Str × Addr)} {X : Fl → St → Prop} {loc : List (Str × V)} {H : List O}
  {x : Ix} {F : List Nat} {W es0 : List (List Nat)} {Ls : List Lev} {lvs : List V} {pi : List (Pos × Str)}
theorem levItem (Z : Base c C aI aR aG x F W es0 Ls lvs H) {p m : Nat} {T : List Nat} {q : Nat} (A : AtLev es0.flatten Ls p (m - 1) T q) (hm : m ≤ Ls.length) :
    ∃ U s, (V.tup [.str es0.flatten, .ref x.nI] :: lvs)[m]? = some (.tup [.str U, .ref s]) ∧ U.length ≤ 90000 ∧
      ((m = 0 ∧ U = T ∧ AtLev es0.flatten Ls p m U q) ∨ (0 < m ∧ ∃ l, U = l.2.flatten ∧ LevT T l ∧ AtLev es0.flatten Ls p m U (low l.1 l.2 q) ∧ H[s]? = some (.list (stepsV l)) ∧ 4 ≤ s)) := by
  cases m with
  | zero =>
    have hT : T = es0.flatten := by rw [A.txt]; exact Z.fr.chain.2
    subst hT
    exact ⟨_, _, rfl, by have := Z.el; omega, .inl ⟨rfl, rfl, A⟩⟩
  | succ m =>
    obtain ⟨l, hl⟩ : ∃ l, Ls[m]? = some l := ⟨_, List.getElem?_eq_getElem (by omega)⟩
    obtain ⟨s, h1, h2, h3, h4⟩ := Z.lh.lr.get m l hl
    obtain ⟨g1, g2⟩ := AtLev.next (m := m) Z.fr A hl
    exact ⟨_, s, by simpa using h1, by have := g1.small; omega, .inr ⟨by omega, l, rfl, g1, g2, h2, h3⟩⟩
theorem innerX {d p : Nat} (hd : 21 ≤ d) (L : LawK c.K) (Z : Base c C aI aR aG x F W es0 Ls lvs H) (h0 : 0 < p) (hp : p ≤ es0.flatten.length) {g : List O} (K : KL x H.length loc)
    (q : ∀ loc' g' T, KL x H.length loc' → AtLev es0.flatten Ls p Ls.length T (plc Ls p) → X .next ⟨loc', BX C P es0 Ls H pi (some (.int (plc Ls p : Nat))) p ++ g'⟩) :
    XV c d (lfx Lo fa cd cells ρ₀) (exec (nthS (bodyOf (nthS (fBody (stmt 10)) 8)) 2) (lfx Lo fa cd cells ρ₀).env) ⟨loc, BX C P es0 Ls H pi (some (.int (p : Nat))) p ++ g⟩ X := by
  have h2 := Z.h2
  have hlen := Z.lh.lr.len
  have hLl := Z.Ll
  have ge := Z.lh.ge
  refine XV.forS ?_
  refine EV.callT L.gRange Boot.«range» (by decide) ?_
  refine EVs.cons ?_
  refine EV.callB L.gLen Boot.«len» (by decide) ?_
  refine EVs.cons ?_
  refine EV.var K.lev ?_
  refine EVs.nil ?_
  refine OVs.len_list (BX_get (by omega) Z.lh.l) (by simp; omega) ?_
  rw [List.length_cons, hlen]
  refine EVs.nil ?_
  refine OVs.range1 ?_
  have A0 := AtLev.zero Z.fr h0 hp
  refine ⟨_, _, _, Src.upto (n := Ls.length + 1) ga (by omega), fun m σ => ∃ T q g, AtLev es0.flatten Ls p (m - 1) T q ∧ σ.hp = BX C P es0 Ls H pi (some (.int (q : Nat))) p ++ g ∧ KL x H.length σ.loc, ⟨_, p, g ++ [.rng 0 (Ls.length + 1 : Nat) 1], A0, by simp, K⟩, fun _ _ _ => trivial, ?_, ?_⟩
  · rintro ρ₁ hρ₁ m ⟨loc, hp⟩ hm ⟨T, q, g, A, e, K⟩
    have hm' : m ≤ Ls.length := by omega
    subst e
    obtain ⟨U, s, g1, gU, g2⟩ := levItem Z A hm'
    refine OU1.name ?_
    refine XV.cons ?_
    refine XV.assignT ?_
    refine EV.sub ?_
    refine EV.var (lk_ne K.lev (by decide)) ?_
    refine EV.var lk_eq ?_
    refine OV2.item (v := .tup [.str U, .ref s]) (BX_get (by omega) Z.lh.l) (by omega) (by rw [Int.toNat_natCast]; exact g1) (by simp; omega) ?_
    refine OU1.tuple rfl ?_
    show OU1 _ _ _ _ _ _ _
    refine OU1.name ?_
    show OU1 _ _ _ _ _ _ _
    refine OU1.name ?_
    show XV _ _ _ _ ⟨put "steps" (.ref s) (put "text" (.str U) (put "level" (.int (m : Nat)) loc)), BX C P es0 Ls H pi (some (.int (q : Nat))) p ++ g⟩ _
    obtain ⟨loc2, hloc2⟩ : ∃ l, l = put "steps" (.ref s) (put "text" (.str U) (put "level" (.int (m : Nat)) loc)) := ⟨_, rfl⟩
    have K2 : KL x H.length loc2 := by rw [hloc2]; exact ((K.put (by decide)).put (by decide)).put (by decide)
    have ks : at_ loc2 "steps" = some (.ref s) := by rw [hloc2]; exact lk_eq
    have kt : at_ loc2 "text" = some (.str U) := by rw [hloc2]; exact lk_ne lk_eq (by decide)
    have kl : at_ loc2 "level" = some (.int (m : Nat)) := by rw [hloc2]; exact lk_ne (lk_ne lk_eq (by decide)) (by decide)
    rw [← hloc2]
    clear hloc2 K
    refine XV.cons ?_
    refine XV.mono (Q := fun fl σ' => fl = .next ∧ ∃ q' g', AtLev es0.flatten Ls p m U q' ∧ σ' = ⟨loc2, BX C P es0 Ls H pi (some (.int (q' : Nat))) p ++ g'⟩) ?_ ?_
    · refine XV.ifB ?_
      refine TV.cmp ?_
      refine EV.var kl ?_
      refine EV.cint ?_
      refine OV2.gt_int ⟨_, rfl, fun h => ?_, fun h => ?_⟩
      · have h : 0 < m := by have := of_decide_eq_true h; omega
        rcases g2 with ⟨z, _⟩ | ⟨_, l, hU, hlt, A', hs, hs3⟩
        · omega
        · refine XV.cons ?_
          refine XV.assignC (i := 3) ?_ rfl
          have hlm : l.1.length ≤ 100000 := by have := hlt.enc.count; have := hlt.small; omega
          refine minX (H := BX C P es0 Ls H pi (some (.int (q : Nat))) p ++ g) L hlt A.ge A.le (BX_cell h2) (BX_get hs3 hs) ks hlm (fun g' => ?_) rfl
          refine ⟨some (.int (q : Nat)), by dsimp only; rw [List.append_assoc]; exact BX_cell h2, ?_⟩
          refine XV.nil ⟨rfl, low l.1 l.2 q, g ++ g', A', ?_⟩
          dsimp only
          rw [List.append_assoc, BX_set h2]
      · have h : m = 0 := by have := of_decide_eq_false h; omega
        rcases g2 with ⟨_, _, A'⟩ | ⟨z, _⟩
        · exact XV.nil ⟨rfl, q, g, A', rfl⟩
        · omega
    rintro _ _ ⟨rfl, q', g', A', rfl⟩
    obtain ⟨j, kv, i1, i2, i3⟩ := machAt (P := P) (pi := pi) (v := some (.int (q' : Nat))) (g := g') Z L.gLen hm' A'
    refine XV.cons ?_
    refine XV.ifB ?_
    refine TV.cmp ?_
    refine EV.attr ?_
    refine EV.sub ?_
    refine EV.var K2.row ?_
    refine EV.binop ?_
    refine EV.unary ?_
    refine EV.cint ?_
    refine OV1.neg_int ?_
    refine EV.var kl ?_
    refine OV2.sub_int ?_
    have e1 : (-1 - ((m : Nat) : Int)) + ((rowV H.length Ls.length).length : Nat) = ((Ls.length - m : Nat) : Int) := by rw [rowV_len]; omega
    refine OV2.itemN (v := .ref (mi H.length (Ls.length - m))) BX_row (by omega) (by rw [e1]; omega) (by rw [e1, Int.toNat_natCast]; exact rowV_get (by omega)) (by rw [rowV_len]; omega) ?_
    refine ⟨_, C, j, kv, _, rfl, i1, i2, i3, Z.N.cls, Z.N.a1, rfl, ?_⟩
    refine EV.binop ?_
    refine EV.cint ?_
    refine EV.count ?_
    refine EV.slice (l := U) ?_
    refine EV.var kt ⟨rfl, by omega, ?_⟩
    refine EV.cell (i := 3) rfl (BX_cell h2) ⟨q', rfl, ⟨_, rfl⟩, ?_⟩
    refine EVs.cons ?_
    refine EV.cstr (l := [10]) ?_
    refine EVs.nil ?_
    refine OVs.count_one ?_
    refine OV2.add_int ?_
    have hcut : cut U none (some q') = U.take q' := by
      have := A'.le
      show (U.drop 0).take (min q' U.length - 0) = _
      rw [Nat.min_eq_left this, List.drop_zero, Nat.sub_zero]
    rw [hcut]
    refine OV2.ne_int ⟨_, rfl, fun h => ?_, fun h => ?_⟩
    · exfalso
      have : (lineOf U q' != 1 + (((U.take q').count 10 : Nat) : Int)) = false := by unfold lineOf; simp
      rw [this] at h; cases h
    · exact XV.nil (XV.nil ⟨U, q', g', A', rfl, K2⟩)
  · rintro ⟨loc, hp⟩ ⟨T, q', g, A, e, K⟩
    subst e
    have hq := A.pos
    rw [Nat.add_sub_cancel, posAt_all] at hq
    subst hq
    exact q loc g T K A
end
end Mine
namespace Mine
open PySem PySem.W PyProof.Rows PySem.SeqAt
section
variable {c : Cx} {C aI aR aG aP aF aL aE aD aW aS aH cc cp P : Addr} {Lo fa : Addr} {cd : Value} {ρ₀ : List Addr} {cells : List (Str × Addr)} {X : Fl → St → Prop} {loc : List (Str × V)} {H : List O}
  {x : Ix} {F : List Nat} {W es0 : List (List Nat)} {Ls : List Lev} {lvs : List V} {pi : List (Pos × Str)}
theorem playX {d : Nat} {v : Option V} (hd : 21 ≤ d) (L : LawK c.K) (Z : Base c C aI aR aG x F W es0 Ls lvs H) (K : KL x H.length loc)
    (q : ∀ σ v p g, σ.hp = BX C P es0 Ls H pi v p ++ g → X .next σ) :
    XV c d (lfx Lo fa cd cells ρ₀) (exec (nthS (fBody (stmt 10)) 8) (lfx Lo fa cd cells ρ₀).env) ⟨loc, BX C P es0 Ls H pi v 0⟩ X := by
  have h2 := Z.h2
  have hWl := Z.Wl
  have hLl := Z.Ll
  have hWn := Z.Wn
  have hEl := Z.E.len
  have ge := Z.lh.ge
  have ap0 : ∀ {v : Option V} {p i : Nat} {o : O}, 4 ≤ i → H[i]? = some o → (BX C P es0 Ls H pi v p)[i]? = some o := fun {v p i o} h e => by
    have := BX_get (C := C) (P := P) (es0 := es0) (Ls := Ls) (pi := pi) (v := v) (p := p) (g := []) h e
    rwa [List.append_nil] at this
  refine XV.forS ?_
  refine EV.callT L.gRange Boot.«range» (by decide) ?_
  refine EVs.cons ?_
  refine EV.binop ?_
  refine EV.callB L.gLen Boot.«len» (by decide) ?_
  refine EVs.cons ?_
  refine EV.var K.wds ?_
  refine EVs.nil ?_
  refine OVs.len_list (ap0 (by omega) Z.lh.w) (by rw [svs_len]; omega) ?_
  rw [svs_len]
  refine EV.cint ?_
  refine OV2.add_int ?_
  rw [show ((W.length : Nat) : Int) + 3 = ((W.length + 3 : Nat) : Int) by omega]
  refine EVs.nil ?_
  refine OVs.range1 ?_
  refine ⟨_, _, _, Src.upto (n := W.length + 3) ga (by omega), fun k σ => ∃ v g, σ.hp = BX C P es0 Ls H pi v (endAt es0 k) ++ g ∧ KL x H.length σ.loc, ⟨v, [.rng 0 (W.length + 3 : Nat) 1], by simp [endAt], K⟩, fun _ _ _ => trivial, ?_, fun σ ⟨v, g, e, _⟩ => q σ v _ g e⟩
  rintro ρ₁ hρ₁ k ⟨loc, hp⟩ hk ⟨v, g, e, K⟩
  subst e
  refine OU1.name ?_
  have K1 := K.put (n := "k") (v := .int (k : Nat)) (by decide)
  have kk : at_ (put "k" (.int (k : Nat)) loc) "k" = some (.int (k : Nat)) := lk_eq
  show XV _ _ _ _ ⟨put "k" (.int (k : Nat)) loc, BX C P es0 Ls H pi v (endAt es0 k) ++ g⟩ _
  generalize put "k" (.int (k : Nat)) loc = loc1 at K1 kk ⊢
  clear K
  -- the token
  obtain ⟨j, kv, i1, i2, i3⟩ := topInst (P := P) (pi := pi) (v := v) Z L.gLen (endAt es0 k) g
  refine XV.cons ?_
  refine XV.ifB ?_
  refine TV.cmp ?_
  refine EV.meth 21 ?_ hd
  refine EV.sub ?_
  refine EV.var K1.row ?_
  refine EV.unary ?_
  refine EV.cint ?_
  refine OV1.neg_int ?_
  have e1 : ((-1 : Int) + ((rowV H.length Ls.length).length : Nat)) = ((Ls.length : Nat) : Int) := by rw [rowV_len]; omega
  refine OV2.itemN (v := .ref (mi H.length Ls.length)) BX_row (by decide) (by rw [e1]; omega) (by rw [e1, Int.toNat_natCast]; exact rowV_get (Nat.le_refl _)) (by rw [rowV_len]; omega) ?_
  refine ⟨_, C, j, kv, aG, rfl, i1, i2, i3, Z.N.cls, Z.N.gt, Z.N.tG, Z.N.kG, ?_⟩
  refine EVs.nil ?_
  refine (topTok Z L.gLen k g).mono ?_
  rintro _ _ ⟨rfl, g', rfl⟩
  refine EV.sub ?_
  refine EV.binop ?_
  refine EV.var K1.wds ?_
  refine EV.binop ?_
  refine EV.list ?_
  refine EVs.cons ?_
  refine EV.cstr (l := []) ?_
  refine EVs.nil ⟨(show (1 : Nat) ≤ 1000 by decide), ?_⟩
  refine EV.cint ?_
  refine OV2.mul_list (n := 3) ga (by simp) (by omega) ?_
  refine OV2.add_list (get_app (get_app (BX_get (by omega) Z.lh.w))) ga (by rw [svs_len]; simp; omega) ?_
  refine EV.var kk ?_
  refine OV2.item (v := .str (W.getD k [])) ga (by omega) (by
    rw [Int.toNat_natCast, tail3 (svs W) (.str []) k (by rw [svs_len]; exact hk), svs_getD]) (by rw [List.length_append, svs_len]; simp; omega) ?_
  refine OV2.ne_str ⟨_, rfl, fun h => ?_, fun h => ?_⟩
  · exfalso
    have : (W.getD k [] != W.getD k []) = false := by simp
    rw [this] at h; cases h
  refine XV.nil ?_
  -- the place
  have hes : 0 < es0.length := by omega
  have hcur : ∀ G : List O, (BX C P es0 Ls H pi v (endAt es0 (k + 1)) ++ (g ++ g')) ++ G = BX C P es0 Ls H pi v (endAt es0 (k + 1)) ++ (g ++ g' ++ G) := fun G => by simp
  simp only [hcur]
  simp only [List.append_assoc]
  generalize hG : g ++ (g' ++ ([O.list [V.str []]] ++ ([O.list (List.replicate 3 [V.str []]).flatten] ++ [O.list (svs W ++ (List.replicate 3 [V.str []]).flatten)]))) = G
  refine XV.cons ?_
  refine XV.assignC (i := 3) ?_ rfl
  refine EV.sub ?_
  refine EV.binop ?_
  refine EV.var K1.ends ?_
  refine EV.binop ?_
  refine EV.sliceFrom ?_
  refine EV.var K1.ends ⟨x.eI, rfl, ?_⟩
  refine EV.unary ?_
  refine EV.cint ?_
  refine OV1.neg_int ⟨-1, endsV es0, rfl, BX_get (by omega) Z.lh.e, by rw [endsV_len]; omega, ?_⟩
  rw [ends_last hes]
  refine EV.cint ?_
  refine OV2.mul_list (n := 3) ga (by simp) (by omega) ?_
  refine OV2.add_list (get_app (get_app (BX_get (by omega) Z.lh.e))) ga (by rw [endsV_len]; simp; omega) ?_
  refine EV.var kk ?_
  refine OV2.item (v := .int (endAt es0 (k + 1) : Nat)) ga (by omega) (by
    rw [Int.toNat_natCast, tail3 (endsV es0) (.int (es0.flatten.length : Nat)) k (by rw [endsV_len]; omega), ends_getD]) (by rw [List.length_append, endsV_len]; simp; omega) ⟨v, get_app (get_app (get_app (BX_cell h2))), ?_⟩
  have hp0 : 0 < endAt es0 (k + 1) := by
    have h1 : endAt es0 1 ≤ endAt es0 (k + 1) := endAt_mono es0 (by omega)
    have e0 : es0[0]? = some es0[0] := List.getElem?_eq_getElem hes
    have e1 := (Z.E.get 0 _ _ (List.getElem?_eq_getElem hWn) e0).2.2
    have e2 : endAt es0 1 = endAt es0 0 + es0[0].length := endAt_succ e0
    have : 0 < es0[0].length := List.length_pos_iff.mpr e1
    omega
  have hple := endAt_le es0 (k + 1)
  refine XV.st2 (loc' := loc1) (hp' := BX C P es0 Ls H pi (some (.int (endAt es0 (k + 1) : Nat))) (endAt es0 (k + 1)) ++ (G ++ ([O.list [V.int (es0.flatten.length : Nat)]] ++ ([O.list (List.replicate 3 [V.int (es0.flatten.length : Nat)]).flatten] ++ [O.list (endsV es0 ++ (List.replicate 3 [V.int (es0.flatten.length : Nat)]).flatten)])))) rfl (by
    dsimp only; simp only [List.append_assoc]; exact BX_set h2) ?_
  generalize G ++ ([O.list [V.int (es0.flatten.length : Nat)]] ++ ([O.list (List.replicate 3 [V.int (es0.flatten.length : Nat)]).flatten] ++ [O.list (endsV es0 ++ (List.replicate 3 [V.int (es0.flatten.length : Nat)]).flatten)])) = G2
  refine XV.cons ?_
  refine innerX hd L Z hp0 hple K1 fun loc2 g2 T K2 A2 => ?_
  show XV _ _ _ _ _ _
  refine XV.cons ?_
  refine XV.ifB ?_
  refine TV.cmp ?_
  refine EV.sub ?_
  refine EV.var K2.atv ?_
  refine EV.cint ?_
  refine OV2.item (v := .int (plc Ls (endAt es0 (k + 1)) : Nat)) BX_at (by decide) rfl (by simp) ?_
  refine EV.cell (i := 3) rfl (BX_cell h2) ?_
  refine OV2.ne_int ⟨_, rfl, fun h => ?_, fun h => ?_⟩
  · exfalso
    simp at h
  · exact XV.nil (XV.nil ⟨_, g2, rfl, K2⟩)
end
end Mine
namespace Mine
open PySem PySem.W PyProof.Rows PySem.SeqAt
noncomputable abbrev hp2 (P P2 : Addr) : List O := [.tab P 0 [], .tab P2 1 [], .cell none, .cell none]
noncomputable abbrev Xend (P P2 : Addr) : Fl → St → Prop := fun f σ => f = .ret (.bool true) ∧ ∃ q q2, σ.hp[0]? = some (.tab P 0 q) ∧ σ.hp[1]? = some (.tab P2 1 q2)
theorem flat_bnd (b : Nat) : ∀ (W : List (List Nat)), (∀ w ∈ W, w.length ≤ b) → W.flatten.length ≤ b * W.length
  | [], _ => by simp
  | w :: r, h => by
    have h1 := h w (.head _)
    have h2 := flat_bnd b r fun y hy => h y (.tail _ hy)
    rw [List.flatten_cons, List.length_append, List.length_cons, Nat.mul_add]; omega
section
variable {c : Cx} {C aI aR aG aP aF aL aE aD aW aS aH cc cp P P2 : Addr} {Lo fa : Addr} {cd : Value} {ρ₀ : List Addr} {cells : List (Str × Addr)}
theorem law {a : Addr} {xs : List Value} {vs : List V} (N : NetK c.K C aI aR aG) (FK : FigK c.K aF) (DK : WdsK c.K aD) (WK : WriK c.K aW) (EK : PcsK c.K aE) (SK : StrK c.K aS cc) (PK : PipK c.K aP cp) (hC : CodeHd c.H₀ cc P) (hC2 : CodeHd c.H₀ cp P2) (L : LawK c.K) (S : Scr c a xs vs) :
    XV c 24 (lfx Lo fa cd cells ρ₀) (execs (fBody (stmt 10)) (lfx Lo fa cd cells ρ₀).env) ⟨[("script", .top a)], hp2 P P2⟩ (Xend P P2) := by
  refine XV.cons ?_
  refine XV.assign ?_
  refine EV.call 2 FK.gF FK.kF ?_
  refine EVs.cons ?_
  refine EV.var rfl ?_
  refine EVs.nil ?_
  refine (lawFigures FK S).mono ?_
  rintro _ _ ⟨F, fI, g₁, rfl, rfl, hf, hfi, hFl, hFn, hF16⟩
  dsimp only
  have hfi : 4 ≤ fI := hfi
  obtain ⟨B1, eB1⟩ : ∃ B, B = hp2 P P2 ++ g₁ := ⟨_, rfl⟩
  have t0 : B1[0]? = some (.tab P 0 []) := by rw [eB1]; rfl
  have t00 : B1[1]? = some (.tab P2 1 []) := by rw [eB1]; rfl
  have t1 : B1[2]? = some (.cell none) := by rw [eB1]; rfl
  have t2 : B1[3]? = some (.cell none) := by rw [eB1]; rfl
  rw [← eB1] at hf ⊢
  refine XV.cons ?_
  refine XV.assign ?_
  refine EV.call 2 DK.gD DK.kD ?_
  refine EVs.cons ?_
  refine EV.var rfl ?_
  refine EVs.nil ?_
  refine (lawWords DK hf hFl hF16).mono ?_
  rintro _ _ ⟨W, rfl, rfl, hWn, hWl, hWb⟩
  dsimp only
  refine XV.cons ?_
  refine XV.assignT ?_
  refine EV.call 2 WK.gW WK.kW ?_
  refine EVs.cons ?_
  refine EV.var rfl ?_
  refine EVs.cons ?_
  refine EV.var rfl ?_
  refine EVs.nil ?_
  refine (lawWritten (W := W) (F := F) WK ga (get_app hf) hFn (by omega) (by omega) (fun w hw => by have := hWb w hw; omega)).mono ?_
  rintro _ _ ⟨es, rfl, E, g₂, rfl⟩
  refine OU1.tuple rfl ?_
  show OU1 _ _ _ _ _ _ _
  refine OU1.name ?_
  show OU1 _ _ _ _ _ _ _
  refine OU1.name ?_
  show XV _ _ _ _ _ _
  have hWp : 0 < W.length := List.length_pos_iff.mpr hWn
  have hEl := E.len
  have hE2 := E.size2
  have hWf := flat_bnd 8 W hWb
  have hEc := E.count
  have hsz : es.flatten.length ≤ 162 := by omega
  have hfl := lt_of_get hf
  obtain ⟨B3, eB3⟩ : ∃ B, B = B1 ++ [O.list (svs W)] ++ O.list (endsV es) :: g₂ := ⟨_, rfl⟩
  have b0 : ∀ {i o}, B1[i]? = some o → B3[i]? = some o := fun e => by rw [eB3]; exact get_app (get_app e)
  have bw : B3[B1.length]? = some (.list (svs W)) := by rw [eB3]; exact get_app ga
  have be : B3[(B1 ++ [O.list (svs W)]).length]? = some (.list (endsV es)) := by rw [eB3]; exact ga
  obtain ⟨eI, heI⟩ : ∃ e, e = (B1 ++ [O.list (svs W)]).length := ⟨_, rfl⟩
  have heI' : eI = B1.length + 1 := by rw [heI]; simp
  have heL := lt_of_get be
  rw [← heI] at be heL
  rw [← eB3]
  refine XV.st2 (loc' := [("script", .top a), ("figures", .ref fI), ("words", .ref B1.length), ("text", .str es.flatten), ("ends", .ref eI)]) (hp' := B3) (by rw [heI]; rfl) rfl ?_
  refine XV.cons ?_
  refine XV.assign ?_
  refine EV.list ?_
  refine EVs.cons ?_
  refine EV.tuple ?_
  refine EVs.cons ?_
  refine EV.var rfl ?_
  refine EVs.cons ?_
  refine EV.list ?_
  refine EVs.nil ⟨(show (0 : Nat) ≤ 1000 by decide), ?_⟩
  refine EVs.nil ⟨(show (2 : Nat) ≤ 1000 by decide), ?_⟩
  refine EVs.nil ⟨(show (1 : Nat) ≤ 1000 by decide), ?_⟩
  obtain ⟨x, hx⟩ : ∃ x : Ix, x = ⟨fI, B1.length, eI, B3.length + 1, B3.length⟩ := ⟨_, rfl⟩
  have J0 : LJ P P2 x F W es [] [] ⟨[("script", .top a), ("figures", .ref fI), ("words", .ref B1.length), ("text", .str es.flatten), ("ends", .ref eI), ("levels", .ref (B3.length + 1))], B3 ++ [.list [], .list [.tup [.str es.flatten, .ref B3.length]]]⟩ := by
    subst hx
    exact ⟨⟨get_app (b0 hf), get_app bw, get_app be, blk_get rfl, ⟨rfl, fun j l e => by simp at e⟩, by dsimp only; omega⟩, get_app (b0 t0), get_app (b0 t00), ⟨_, get_app (b0 t1)⟩, get_app (b0 t2), rfl, rfl, rfl, rfl, rfl, trivial, hsz, by show 0 < es.flatten.length; omega, by decide⟩
  clear hx
  refine XV.st2 (loc' := [("script", .top a), ("figures", .ref fI), ("words", .ref B1.length), ("text", .str es.flatten), ("ends", .ref eI), ("levels", .ref (B3.length + 1))]) (hp' := B3 ++ [.list [], .list [.tup [.str es.flatten, .ref B3.length]]]) (by dsimp only; rw [List.length_append]; rfl) (by simp) ?_
  refine XV.cons ?_
  refine levelsX (by decide) L EK WK hFl hFn hF16 J0 fun σ Ls lvs J => ?_
  clear J0 be bw b0 t0 t00 t1 t2 hf
  obtain ⟨loc, H⟩ := σ
  have k0 := J.t0
  have k2 := J.c2
  have hH2 : 3 < H.length := lt_of_get k2
  have ge := J.lh.ge
  have hlI : x.lI < H.length := lt_of_get J.lh.l
  show XV _ _ _ _ ⟨loc, H⟩ _
  -- at, row
  refine XV.cons ?_
  refine XV.assign ?_
  refine EV.list ?_
  refine EVs.cons ?_
  refine EV.cint ?_
  refine EVs.nil ⟨(show (1 : Nat) ≤ 1000 by decide), ?_⟩
  refine XV.cons ?_
  refine XV.assign ?_
  refine EV.list ?_
  refine EVs.cons ?_
  refine EV.call 3 N.gC N.kC ?_
  refine EVs.cons ?_
  refine EV.call 5 SK.gS SK.kS ?_
  refine EVs.cons ?_
  refine EV.var (lk_ne J.text (by decide)) ?_
  refine EVs.cons ?_
  refine EV.var lk_eq ?_
  refine EVs.nil ?_
  refine (stream (t := 0) (pi := []) (pi' := tabs1) N SK hC (get_app k0) (.new (l := []) rfl)).mono ?_
  rintro _ _ ⟨rfl, _, rfl, rfl⟩
  refine EVs.nil ?_
  refine (new_ N).mono ?_
  rintro _ _ ⟨rfl, rfl⟩
  refine EVs.nil ⟨(show (1 : Nat) ≤ 1000 by decide), ?_⟩
  have hlocs : KL x H.length (put "row" (.ref (H.length + 10)) (put "at" (.ref H.length) loc)) :=
    ⟨lk_ne (lk_ne J.wds (by decide)) (by decide), lk_ne (lk_ne J.ends (by decide)) (by decide), lk_ne (lk_ne J.lev (by decide)) (by decide), lk_ne lk_eq (by decide), lk_eq⟩
  obtain ⟨H', eH'⟩ : ∃ H', H' = H.set 0 (.tab P 0 tabs1) := ⟨_, rfl⟩
  have hHl : H'.length = H.length := by rw [eH']; simp
  have k1' : H'[1]? = some (.tab P2 1 []) := by rw [eH']; exact set_ne (by decide) J.t1
  have k2' : H'[3]? = some (.cell none) := by rw [eH']; exact set_ne (by decide) k2
  have lh' : LH x F W es Ls lvs H' := J.lh.mono fun i o a e => by rw [eH']; exact set_ne (by omega) e
  have k0' : H'[0]? = some (.tab P 0 tabs1) := by rw [eH']; exact set_at k0
  have hs1 : H'.set 1 (.tab P2 1 []) = H' := set_same k1'
  refine XV.st2 (loc' := put "row" (.ref (H'.length + 10)) (put "at" (.ref H'.length) loc)) (hp' := BB (H'.set 1 (.tab P2 1 [])) C (bot es.flatten Ls) (rowV H'.length 0) [] 0) ?_ ?_ ?_
  · rw [hHl]; simp only [List.length_append, List.length_set, List.length_cons, List.length_nil]
  · rw [hs1]
    unfold BB blk
    rw [hHl]
    simp only [List.length_append, List.length_set, List.length_cons, List.length_nil]
    rw [List.set_append_left _ _ (by omega), ← eH']
    simp only [List.append_assoc]
    rfl
  rw [← hHl] at hlocs
  have hLs : Ls.length ≤ 2 := J.cnt
  have hlvl := J.lh.lr.len
  refine XV.cons ?_
  refine rowX (d := 24) (Ls := Ls) (lI := x.lI) (by decide) L N PK hC2 (by omega) (by omega) lh'.l (by simp [hlvl]) (by omega) hlocs.row hlocs.lev fun pi => ?_
  have Z : Base c C aI aR aG x F W es Ls lvs H' := ⟨N, lh', by omega, J.fr, E, hWp, hWl, hsz, hLs⟩
  have hset : H'.set 1 (.tab P2 1 pi) = Hv H' P2 pi none := by
    unfold Hv
    rw [set_same (i := 3)]
    exact set_ne (by decide) k2'
  rw [hset]
  refine XV.cons ?_
  refine playX (d := 24) (by decide) L Z hlocs fun σ v p g e => ?_
  refine XV.cons ?_
  refine XV.ret ?_
  refine EV.cbool ⟨rfl, tabs1, pi, ?_, ?_⟩
  · rw [e]
    exact get_app (BB.get (set_ne (by decide) (set_ne (by decide) k0')) Ls p)
  · rw [e]
    exact get_app (BB.get (set_ne (by decide) (List.getElem?_set_self (by omega))) Ls p)
end
end Mine
namespace Mine
open PySem PySem.W PyProof.Rows PySem.SeqAt
theorem ints_rel : ∀ {xs : List Value} {ns : List Int}, IntsAre xs ns → ∀ ρ h, VRs ρ h (ns.map V.int) xs
  | _, _, .nil, _, _ => .nil
  | _, _, .cons n t r, ρ, h => .cons (.int n t) (ints_rel r ρ h)
theorem start {prog : Program} {w : World} {K : Frag} {G h₁ : Heap} {p : Program} {loose : List Str} {mean : ExcName → Option Value} {mg mb : Str → Option Value} {L P P2 a fa c1 c2 : Addr} {w1 w2 : Obj} {n1 n2 : Str} {m : Str → Option Value} {cd : Value} {g : Array GenState} {dr : Drawn} {tk : Tok} {os : OsState} {A : Around} {d : Nat} {qual : Str} {scope : Scope} {body : List Stmt}
    (X : K.In G) (T : Top p loose mean mg mb G) (F : Fr G L h₁ m) (N : News G L h₁ [(c2, w2), (c1, w1), (P2, tabObj #[]), (P, tabObj #[])]) (hd1 : w1.data = .cell none) (hd2 : w2.data = .cell none) (hPP : P ≠ P2) (ho1 : P < c1) (ho1' : P2 < c1) (ho2 : c1 < c2) (hm : m "script" = some (.ref a)) (R : Room d A) (hk : scope.kind = .function)
    (h : XV ⟨prog, w, K, G, p, loose, mg, mb, g, os⟩ d ⟨envX qual scope L fa cd [(n2, c2), (n1, c1)], [(n2, 3), (n1, 2)], [P, P2, c1, c2]⟩ (execs body (envX qual scope L fa cd [(n2, c2), (n1, c1)])) ⟨[("script", .top a)], [.tab P 0 [], .tab P2 1 [], .cell none, .cell none]⟩ (fun f σ => f = .ret (.bool true) ∧ ∃ q q2, σ.hp[0]? = some (.tab P 0 q) ∧ σ.hp[1]? = some (.tab P2 1 q2))) :
    wpAny (model prog w) A (execs body (envX qual scope L fa cd [(n2, c2), (n1, c1)])) (fun f s' => f = .ret (.bool true) ∧ (∃ m', Fr G L s'.heap m') ∧ s'.gens = g ∧ s'.os = os ∧ GrownAt P s'.heap ∧ GrownAt P2 s'.heap) noE ⟨h₁, g, dr, tk, os⟩ := by
  have ok : Cx.Ok ⟨prog, w, K, G, p, loose, mg, mb, g, os⟩ := ⟨X, topRead_of T, T.bmain⟩
  have hP := N (P, tabObj #[]) (.tail _ (.tail _ (.tail _ (.head _))))
  have hP2 := N (P2, tabObj #[]) (.tail _ (.tail _ (.head _)))
  have hN1 := N (c1, w1) (.tail _ (.head _))
  have hN2 := N (c2, w2) (.head _)
  have hL : G.get? L = none := get_none_of_lt F.above
  have rel : RelS ⟨prog, w, K, G, p, loose, mg, mb, g, os⟩ ⟨envX qual scope L fa cd [(n2, c2), (n1, c1)], [(n2, 3), (n1, 2)], [P, P2, c1, c2]⟩ [P, P2, c1, c2] ⟨[("script", .top a)], [.tab P 0 [], .tab P2 1 [], .cell none, .cell none]⟩ ⟨h₁, g, dr, tk, os⟩ := by
    refine ⟨{ toHRel := ⟨F.keep, rfl, by simp; exact ⟨⟨hPP, (Nat.ne_of_lt ho1), (Nat.ne_of_lt (Nat.lt_trans ho1 ho2))⟩, ⟨(Nat.ne_of_lt ho1'), (Nat.ne_of_lt (Nat.lt_trans ho1' ho2))⟩, (Nat.ne_of_lt ho2)⟩, fun b hb => ?_, fun i b o e1 e2 => ?_⟩, ok := ok, loc := ⟨m, F.ns, fun x v e => ?_⟩, lfresh := hL, lapart := ?_, pre := List.prefix_refl _, glob := rfl, bltn := rfl, kind := hk, cells := ⟨rfl, rfl, rfl, rfl, trivial⟩ }, rfl, rfl⟩
    · simp at hb; rcases hb with rfl | rfl | rfl | rfl
      · exact hP.2.2
      · exact hP2.2.2
      · exact hN1.2.2
      · exact hN2.2.2
    · match i, e1, e2 with
      | 0, e1, e2 => simp at e1 e2; subst e1; subst e2; exact ⟨_, hP.1, #[], rfl, rfl, trivial, rfl⟩
      | 1, e1, e2 => simp at e1 e2; subst e1; subst e2; exact ⟨_, hP2.1, #[], rfl, rfl, trivial, rfl⟩
      | 2, e1, e2 => simp at e1 e2; subst e1; subst e2; exact ⟨_, hN1.1, none, hd1, trivial⟩
      | 3, e1, e2 => simp at e1 e2; subst e1; subst e2; exact ⟨_, hN2.1, none, hd2, trivial⟩
      | i + 4, e1, e2 => simp at e1
    · rw [List.lookup_cons] at e
      cases hb : x == ("script" : Str) with
      | true =>
        rw [hb] at e; cases e
        rw [beq_iff_eq.mp hb]
        exact ⟨_, hm, .top a⟩
      | false => rw [hb] at e; cases e
    · intro q; simp at q; rcases q with q | q | q | q
      · exact hP.2.1 q.symm
      · exact hP2.2.1 q.symm
      · exact hN1.2.1 q.symm
      · exact hN2.2.1 q.symm
  refine wpAny_mono (h [P, P2, c1, c2] _ A R rel) ?_ fun _ _ z => z
  rintro x s' ⟨ρ', f, σ', e, r, hf, rfl, q, q2, hq, hq2⟩
  cases hf with
  | ret hv =>
    cases hv
    obtain ⟨m', hm', _⟩ := r.1.loc
    refine ⟨rfl, ⟨m', hm', r.1.keep, F.above⟩, r.2.1, r.2.2, ?_, ?_⟩
    · obtain ⟨aP, x, h1, h2, ps, h3, rfl, _⟩ := r.1.toHRel.at (i := 0) (o := .tab P 0 q) hq
      rw [h1] at h3; cases h3
      exact ⟨ps, h2⟩
    · obtain ⟨aP, x, h1, h2, ps, h3, rfl, _⟩ := r.1.toHRel.at (i := 1) (o := .tab P2 1 q2) hq2
      rw [h1] at h3; cases h3
      exact ⟨ps, h2⟩
end Mine
open PySem PySem.W PyProof.Rows
namespace Mine
open_top hd for PySem.Challenge.rw_dm0214_08
end Mine
open PySem PySem.W PyProof.Rows
namespace Mine
theorem clsK_of (P : Params) : ClsK (hd.heap_39 P) 59 := ⟨by kernel_rfl, by kernel_rfl, by kernel_rfl, by kernel_rfl, by kernel_rfl⟩
theorem fI_of (P : Params) : FnK (hd.heap_39 P) 35 "_netrclex.__init__" (meth 0) := ⟨_, _, _, _, _, _, _, by with_unfolding_all rfl, by kernel_rfl⟩
theorem fR_of (P : Params) : FnK (hd.heap_39 P) 42 "_netrclex._read_char" (meth 1) := ⟨_, _, _, _, _, _, _, by with_unfolding_all rfl, by kernel_rfl⟩
theorem fG_of (P : Params) : FnK (hd.heap_39 P) 49 "_netrclex.get_token" (meth 2) := ⟨_, _, _, _, _, _, _, by with_unfolding_all rfl, by kernel_rfl⟩
theorem netK_of (P : Params) : NetK (hd.heap_39 P) 59 35 42 49 where
  cls := clsK_of P
  makes := by kernel_rfl
  gC := by kernel_rfl
  kC := by kernel_rfl
  init := by kernel_rfl
  tI := by kernel_rfl
  fI := fI_of P
  rd := by kernel_rfl
  tR := by kernel_rfl
  kR := by kernel_rfl
  gR := by kernel_rfl
  nR := by kernel_rfl
  fR := fR_of P
  gt := by kernel_rfl
  tG := by kernel_rfl
  kG := by kernel_rfl
  fG := fG_of P
  a1 := by kernel_rfl
  a2 := by kernel_rfl
  a3 := by kernel_rfl
  a4 := by kernel_rfl
  a5 := by kernel_rfl
  bIter := by kernel_rfl
theorem fF_of (P : Params) : FnK (hd.heap_39 P) 70 "_law_figures" (stmt 4) := ⟨_, _, _, _, _, _, _, by with_unfolding_all rfl, by kernel_rfl⟩
theorem fD_of (P : Params) : FnK (hd.heap_39 P) 77 "_law_words" (stmt 5) := ⟨_, _, _, _, _, _, _, by with_unfolding_all rfl, by kernel_rfl⟩
theorem fW_of (P : Params) : FnK (hd.heap_39 P) 84 "_law_written" (stmt 6) := ⟨_, _, _, _, _, _, _, by with_unfolding_all rfl, by kernel_rfl⟩
theorem fE_of (P : Params) : FnK (hd.heap_39 P) 91 "_law_pieces" (stmt 7) := ⟨_, _, _, _, _, _, _, by with_unfolding_all rfl, by kernel_rfl⟩
theorem fS_of (P : Params) : FnKc (hd.heap_39 P) 98 "_law_stream" (stmt 8) (.ref 97) := ⟨_, _, _, _, _, _, by with_unfolding_all rfl, by kernel_rfl⟩
theorem fP_of (P : Params) : FnKc (hd.heap_39 P) 105 "_law_pipe" (stmt 9) (.ref 104) := ⟨_, _, _, _, _, _, by with_unfolding_all rfl, by kernel_rfl⟩
theorem figK_of (P : Params) : FigK (hd.heap_39 P) 70 := ⟨by kernel_rfl, by kernel_rfl, fF_of P, by kernel_rfl, by kernel_rfl⟩
theorem wdsK_of (P : Params) : WdsK (hd.heap_39 P) 77 := ⟨by kernel_rfl, by kernel_rfl, fD_of P⟩
theorem wriK_of (P : Params) : WriK (hd.heap_39 P) 84 := ⟨by kernel_rfl, by kernel_rfl, fW_of P, by kernel_rfl, by kernel_rfl⟩
theorem pcsK_of (P : Params) : PcsK (hd.heap_39 P) 91 := ⟨by kernel_rfl, by kernel_rfl, fE_of P, by kernel_rfl⟩
theorem strK_of (P : Params) : StrK (hd.heap_39 P) 98 97 := ⟨by kernel_rfl, by kernel_rfl, fS_of P⟩
theorem pipK_of (P : Params) : PipK (hd.heap_39 P) 105 104 := ⟨by kernel_rfl, by kernel_rfl, fP_of P⟩
theorem lawK_of (P : Params) : LawK (hd.heap_39 P) := ⟨by kernel_rfl, by kernel_rfl, by kernel_rfl, by kernel_rfl, by kernel_rfl, by kernel_rfl⟩
theorem room_caller (env : Env) : Room 24 (callerA.deeper env) := ⟨rfl, by show (302 : Nat) + 72 < 990; decide, by show (7 : Nat) + 720 < 9800; decide⟩
end Mine
theorem PySem.Challenge.cw_dm0214_08_holds : PySem.Challenge.rw_dm0214_08.Holds :=
  Mine.hd (by
  k_go0
  rename Frag.In _ _ => X
  rename Top _ _ _ _ _ _ => T
  rename Fr _ _ _ _ => F
  rename News _ _ _ _ => N
  rename IntsAre _ _ => hI
  rename (_ = #[]) => hg
  rename (_ < Array.size _ ∧ _ < Array.size _) => hlt
  refine wpAny_mono (Mine.start (d := 24) (P := 93) (P2 := 100) (body := Mine.fBody (Mine.stmt 10)) (qual := "law") (scope := Mine.fScope (Mine.stmt 10)) X T F N (by assumption) (by assumption) (by decide) (Nat.lt_succ_of_lt hlt.2) (Nat.lt_succ_of_lt hlt.1) (Nat.lt_succ_self _) (by rfl) (Mine.room_caller _) rfl (Mine.law (Mine.netK_of _) (Mine.figK_of _) (Mine.wdsK_of _) (Mine.wriK_of _) (Mine.pcsK_of _) (Mine.strK_of _) (Mine.pipK_of _) (by assumption) (by assumption) (Mine.lawK_of _) ⟨lifted, Mine.ints_rel hI, fun v hv => ?_⟩)) ?_ fun _ _ z => z.elim
  · obtain ⟨n, _, rfl⟩ := List.mem_map.mp hv
    exact ⟨n, rfl⟩
  · rintro f s' ⟨rfl, ⟨m', F'⟩, h1, h2, h3, h4⟩
    refine ⟨goodW_bool F' (h1.trans hg) (fun _ => rfl) ?_ h2, h4, h3, trivial⟩
    wrow_post)
